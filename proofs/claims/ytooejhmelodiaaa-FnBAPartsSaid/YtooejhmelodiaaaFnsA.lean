/-
  Printed by this session's own program eng.py out of Lean's print of the loaded functions: what each function's body asks, in the engine's words; each is checked against the program by the kernel.
-/
import Derived.Test.YtooejhmelodiaaaEng
import Derived.Test.YtooejhmelodiaaaProg
namespace Go.Proofs.Ytooejhmelodiaaa.E
open Go
set_option linter.unusedVariables false
set_option maxRecDepth 100000
theorem noNum : NoNum Go.Proofs.Try.prog := noNum_of (by kernel_rfl)
theorem follows : (Go.Proofs.Try.prog).follows .mixedOrders = true := by kernel_rfl

/-! ## bitarray.block).insert -/
def F67 (k : Value → W) (b_1 : Int) (position_2 : Int) : W :=
 Req (0 ≤ position_2) <|
 Bind (orI .u64 b_1 (shlI .u64 1 position_2.toNat) : Int) fun y3 =>
 k (.int .u64 y3)
theorem F67_eq (k : Value → W) (b_1 : Int) (position_2 : Int) : compF Go.Proofs.Try.prog Go.Proofs.Try.f67 [] (Go.Proofs.Try.f67.body.getD .skip) [.int .u64 b_1, .int .u64 position_2] k = F67 k b_1 position_2 := by kernel_rfl
theorem F67_calls {b_1 : Int} {position_2 : Int} {w : World} {R : Ending → World → Prop} (h : F67 (fun v w => R (.returned v) w) b_1 position_2 w) : Calls Go.Proofs.Try.prog 67 #[.int .u64 b_1, .int .u64 position_2] w R :=
  calls_of_compF noNum follows [] (f := 67) (fn := Go.Proofs.Try.f67) (body := Go.Proofs.Try.f67.body.getD .skip) (args := [.int .u64 b_1, .int .u64 position_2]) rfl rfl (Nat.le_of_ble_eq_true rfl) ((congrFun (F67_eq _ b_1 position_2) w).mpr h)
theorem F67_call {b_1 : Int} {position_2 : Int} {w : World} {g : Fn W (RTy.leaves (.s (.one (.int .u64))))} (h : F67 (fun v => Back (.s (.one (.int .u64))) g (.returned v)) b_1 position_2 w) : CallT Go.Proofs.Try.prog 67 [.int .u64 b_1, .int .u64 position_2] (.s (.one (.int .u64))) g w := F67_calls h

/-! ## bitarray.block).toNums -/
def F68_L1 (k : Value → W) (again8 : Int → Int → Option Addr → Int → W) (b_4 : Int) (offset_5 : Int) (nums_6 : Option Addr) (i_7 : Int) : W :=
 BIf (decide (i_7 < 64)) (
  Req (0 ≤ i_7) <|
  BIf (decide ((andI .u64 b_4 (shlI .u64 1 i_7.toNat)) > 0)) (
   NN nums_6 fun a9 =>
   LoadT .slice a9 fun s10p s10l s10c =>
   RawT Go.Proofs.Try.prog (Instr.buildSlice 22 1 [(0, .int .u64 (addI .u64 i_7 offset_5))].toArray) (.s (.one .slice)) fun s11p s11l s11c =>
   NextT Go.Proofs.Try.prog (builtin .append #[22, 22] 22 [false, false].toArray [.slice s10p s10l s10c, .slice s11p s11l s11c].toArray) (.s (.one .slice)) fun s12p s12l s12c =>
   NN nums_6 fun a13 =>
   Store1 a13 (.slice s12p s12l s12c) <|
   again8 b_4 offset_5 nums_6 (addI .u64 i_7 1)) (
   again8 b_4 offset_5 nums_6 (addI .u64 i_7 1))) (
  k (.tuple #[]))
theorem F68_L1_rule {k : Value → W} (I : Int → Int → Option Addr → Int → W) (μ : Int → Int → Option Addr → Int → World → Nat)
  (hr : ∀ (b_4 : Int) (offset_5 : Int) (nums_6 : Option Addr) (i_7 : Int) (w : World), I b_4 offset_5 nums_6 i_7 w → F68_L1 k (fun b_4' offset_5' nums_6' i_7' w' => I b_4' offset_5' nums_6' i_7' w' ∧ μ b_4' offset_5' nums_6' i_7' w' < μ b_4 offset_5 nums_6 i_7 w) b_4 offset_5 nums_6 i_7 w)
  {w : World} {b_4 : Int} {offset_5 : Int} {nums_6 : Option Addr} {i_7 : Int} (h : I b_4 offset_5 nums_6 i_7 w) : Loop [(.int .u64), (.int .u64), .ptr, (.int .u64)] (F68_L1 k) b_4 offset_5 nums_6 i_7 w :=
  Loop_intro (ts := [(.int .u64), (.int .u64), .ptr, (.int .u64)]) (s := (b_4, offset_5, nums_6, i_7, ())) (fun s w => I s.1 s.2.1 s.2.2.1 s.2.2.2.1 w) (fun s w => μ s.1 s.2.1 s.2.2.1 s.2.2.2.1 w) h (fun s w h => hr s.1 s.2.1 s.2.2.1 s.2.2.2.1 w h)
def F68 (k : Value → W) (b_1 : Int) (offset_2 : Int) (nums_3 : Option Addr) : W :=
 Loop [(.int .u64), (.int .u64), .ptr, (.int .u64)] (F68_L1 k) b_1 offset_2 nums_3 0
theorem F68_eq (k : Value → W) (b_1 : Int) (offset_2 : Int) (nums_3 : Option Addr) : compF Go.Proofs.Try.prog Go.Proofs.Try.f68 [(1, [(0, (.int .u64)), (1, (.int .u64)), (2, .ptr), (6, (.int .u64))])] (Go.Proofs.Try.f68.body.getD .skip) [.int .u64 b_1, .int .u64 offset_2, .pointer nums_3] k = F68 k b_1 offset_2 nums_3 := by kernel_rfl
theorem F68_calls {b_1 : Int} {offset_2 : Int} {nums_3 : Option Addr} {w : World} {R : Ending → World → Prop} (h : F68 (fun v w => R (.returned v) w) b_1 offset_2 nums_3 w) : Calls Go.Proofs.Try.prog 68 #[.int .u64 b_1, .int .u64 offset_2, .pointer nums_3] w R :=
  calls_of_compF noNum follows [(1, [(0, (.int .u64)), (1, (.int .u64)), (2, .ptr), (6, (.int .u64))])] (f := 68) (fn := Go.Proofs.Try.f68) (body := Go.Proofs.Try.f68.body.getD .skip) (args := [.int .u64 b_1, .int .u64 offset_2, .pointer nums_3]) rfl rfl (Nat.le_of_ble_eq_true rfl) ((congrFun (F68_eq _ b_1 offset_2 nums_3) w).mpr h)
theorem F68_call {b_1 : Int} {offset_2 : Int} {nums_3 : Option Addr} {w : World} {g : Fn W (RTy.leaves (.tup []))} (h : F68 (fun v => Back (.tup []) g (.returned v)) b_1 offset_2 nums_3 w) : CallT Go.Proofs.Try.prog 68 [.int .u64 b_1, .int .u64 offset_2, .pointer nums_3] (.tup []) g w := F68_calls h

/-! ## bitarray.block).and -/
def F70 (k : Value → W) (b_1 : Int) (other_2 : Int) : W :=
 k (.int .u64 (andI .u64 b_1 other_2))
theorem F70_eq (k : Value → W) (b_1 : Int) (other_2 : Int) : compF Go.Proofs.Try.prog Go.Proofs.Try.f70 [] (Go.Proofs.Try.f70.body.getD .skip) [.int .u64 b_1, .int .u64 other_2] k = F70 k b_1 other_2 := by kernel_rfl
theorem F70_calls {b_1 : Int} {other_2 : Int} {w : World} {R : Ending → World → Prop} (h : F70 (fun v w => R (.returned v) w) b_1 other_2 w) : Calls Go.Proofs.Try.prog 70 #[.int .u64 b_1, .int .u64 other_2] w R :=
  calls_of_compF noNum follows [] (f := 70) (fn := Go.Proofs.Try.f70) (body := Go.Proofs.Try.f70.body.getD .skip) (args := [.int .u64 b_1, .int .u64 other_2]) rfl rfl (Nat.le_of_ble_eq_true rfl) ((congrFun (F70_eq _ b_1 other_2) w).mpr h)
theorem F70_call {b_1 : Int} {other_2 : Int} {w : World} {g : Fn W (RTy.leaves (.s (.one (.int .u64))))} (h : F70 (fun v => Back (.s (.one (.int .u64))) g (.returned v)) b_1 other_2 w) : CallT Go.Proofs.Try.prog 70 [.int .u64 b_1, .int .u64 other_2] (.s (.one (.int .u64))) g w := F70_calls h

/-! ## bitarray.sparseBitArray).copy -/
def F71 (k : Value → W) (sba_1 : Option Addr) : W :=
 NN sba_1 fun a2 =>
 LoadT .slice a2 fun s3p s3l s3c =>
 RawT Go.Proofs.Try.prog (Instr.makeSlice 82 (.int .i64 ((s3l : Nat) : Int)) (.int .i64 ((s3l : Nat) : Int))) (.s (.one .slice)) fun s4p s4l s4c =>
 NN sba_1 fun a5 =>
 LoadT .slice a5 fun s6p s6l s6c =>
 NextT Go.Proofs.Try.prog (builtin .copy #[82, 82] 3 [false, false].toArray [.slice s4p s4l s4c, .slice s6p s6l s6c].toArray) (.s (.one (.int .i64))) fun x7 =>
 NN sba_1 fun a8 =>
 LoadT .slice (a8.add 1) fun s9p s9l s9c =>
 RawT Go.Proofs.Try.prog (Instr.makeSlice 83 (.int .i64 ((s9l : Nat) : Int)) (.int .i64 ((s9l : Nat) : Int))) (.s (.one .slice)) fun s10p s10l s10c =>
 NN sba_1 fun a11 =>
 LoadT .slice (a11.add 1) fun s12p s12l s12c =>
 NextT Go.Proofs.Try.prog (builtin .copy #[83, 83] 3 [false, false].toArray [.slice s10p s10l s10c, .slice s12p s12l s12c].toArray) (.s (.one (.int .i64))) fun x13 =>
 New [.slice s4p s4l s4c, .slice s10p s10l s10c] 85 fun n14 =>
 k (.pointer (some ⟨n14, 0, none⟩))
theorem F71_eq (k : Value → W) (sba_1 : Option Addr) : compF Go.Proofs.Try.prog Go.Proofs.Try.f71 [] (Go.Proofs.Try.f71.body.getD .skip) [.pointer sba_1] k = F71 k sba_1 := by kernel_rfl
theorem F71_calls {sba_1 : Option Addr} {w : World} {R : Ending → World → Prop} (h : F71 (fun v w => R (.returned v) w) sba_1 w) : Calls Go.Proofs.Try.prog 71 #[.pointer sba_1] w R :=
  calls_of_compF noNum follows [] (f := 71) (fn := Go.Proofs.Try.f71) (body := Go.Proofs.Try.f71.body.getD .skip) (args := [.pointer sba_1]) rfl rfl (Nat.le_of_ble_eq_true rfl) ((congrFun (F71_eq _ sba_1) w).mpr h)
theorem F71_call {sba_1 : Option Addr} {w : World} {g : Fn W (RTy.leaves (.s (.one .ptr)))} (h : F71 (fun v => Back (.s (.one .ptr)) g (.returned v)) sba_1 w) : CallT Go.Proofs.Try.prog 71 [.pointer sba_1] (.s (.one .ptr)) g w := F71_calls h

/-! ## bitarray.block).nand -/
def F77 (k : Value → W) (b_1 : Int) (other_2 : Int) : W :=
 k (.int .u64 (andNotI .u64 b_1 other_2))
theorem F77_eq (k : Value → W) (b_1 : Int) (other_2 : Int) : compF Go.Proofs.Try.prog Go.Proofs.Try.f77 [] (Go.Proofs.Try.f77.body.getD .skip) [.int .u64 b_1, .int .u64 other_2] k = F77 k b_1 other_2 := by kernel_rfl
theorem F77_calls {b_1 : Int} {other_2 : Int} {w : World} {R : Ending → World → Prop} (h : F77 (fun v w => R (.returned v) w) b_1 other_2 w) : Calls Go.Proofs.Try.prog 77 #[.int .u64 b_1, .int .u64 other_2] w R :=
  calls_of_compF noNum follows [] (f := 77) (fn := Go.Proofs.Try.f77) (body := Go.Proofs.Try.f77.body.getD .skip) (args := [.int .u64 b_1, .int .u64 other_2]) rfl rfl (Nat.le_of_ble_eq_true rfl) ((congrFun (F77_eq _ b_1 other_2) w).mpr h)
theorem F77_call {b_1 : Int} {other_2 : Int} {w : World} {g : Fn W (RTy.leaves (.s (.one (.int .u64))))} (h : F77 (fun v => Back (.s (.one (.int .u64))) g (.returned v)) b_1 other_2 w) : CallT Go.Proofs.Try.prog 77 [.int .u64 b_1, .int .u64 other_2] (.s (.one (.int .u64))) g w := F77_calls h

/-! ## bitarray.block).or -/
def F80 (k : Value → W) (b_1 : Int) (other_2 : Int) : W :=
 k (.int .u64 (orI .u64 b_1 other_2))
theorem F80_eq (k : Value → W) (b_1 : Int) (other_2 : Int) : compF Go.Proofs.Try.prog Go.Proofs.Try.f80 [] (Go.Proofs.Try.f80.body.getD .skip) [.int .u64 b_1, .int .u64 other_2] k = F80 k b_1 other_2 := by kernel_rfl
theorem F80_calls {b_1 : Int} {other_2 : Int} {w : World} {R : Ending → World → Prop} (h : F80 (fun v w => R (.returned v) w) b_1 other_2 w) : Calls Go.Proofs.Try.prog 80 #[.int .u64 b_1, .int .u64 other_2] w R :=
  calls_of_compF noNum follows [] (f := 80) (fn := Go.Proofs.Try.f80) (body := Go.Proofs.Try.f80.body.getD .skip) (args := [.int .u64 b_1, .int .u64 other_2]) rfl rfl (Nat.le_of_ble_eq_true rfl) ((congrFun (F80_eq _ b_1 other_2) w).mpr h)
theorem F80_call {b_1 : Int} {other_2 : Int} {w : World} {g : Fn W (RTy.leaves (.s (.one (.int .u64))))} (h : F80 (fun v => Back (.s (.one (.int .u64))) g (.returned v)) b_1 other_2 w) : CallT Go.Proofs.Try.prog 80 [.int .u64 b_1, .int .u64 other_2] (.s (.one (.int .u64))) g w := F80_calls h

/-! ## bits.OnesCount64 -/
def F58 (k : Value → W) (x_1 : Int) : W :=
 Bind (addI .u64 (andI .u64 (shrI .u64 x_1 1) 6148914691236517205) (andI .u64 x_1 6148914691236517205) : Int) fun x_2 =>
 Bind (addI .u64 (andI .u64 (shrI .u64 x_2 2) 3689348814741910323) (andI .u64 x_2 3689348814741910323) : Int) fun x_3 =>
 Bind (andI .u64 (addI .u64 (shrI .u64 x_3 4) x_3) 1085102592571150095 : Int) fun x_4 =>
 Bind (addI .u64 x_4 (shrI .u64 x_4 8) : Int) fun x_5 =>
 Bind (addI .u64 x_5 (shrI .u64 x_5 16) : Int) fun x_6 =>
 Bind (addI .u64 x_6 (shrI .u64 x_6 32) : Int) fun x_7 =>
 Bind (andI .i64 (IntKind.wrap .i64 x_7) 127 : Int) fun y8 =>
 k (.int .i64 y8)
theorem F58_eq (k : Value → W) (x_1 : Int) : compF Go.Proofs.Try.prog Go.Proofs.Try.f58 [] (Go.Proofs.Try.f58.body.getD .skip) [.int .u64 x_1] k = F58 k x_1 := by kernel_rfl
theorem F58_calls {x_1 : Int} {w : World} {R : Ending → World → Prop} (h : F58 (fun v w => R (.returned v) w) x_1 w) : Calls Go.Proofs.Try.prog 58 #[.int .u64 x_1] w R :=
  calls_of_compF noNum follows [] (f := 58) (fn := Go.Proofs.Try.f58) (body := Go.Proofs.Try.f58.body.getD .skip) (args := [.int .u64 x_1]) rfl rfl (Nat.le_of_ble_eq_true rfl) ((congrFun (F58_eq _ x_1) w).mpr h)
theorem F58_call {x_1 : Int} {w : World} {g : Fn W (RTy.leaves (.s (.one (.int .i64))))} (h : F58 (fun v => Back (.s (.one (.int .i64))) g (.returned v)) x_1 w) : CallT Go.Proofs.Try.prog 58 [.int .u64 x_1] (.s (.one (.int .i64))) g w := F58_calls h

/-! ## bitarray.getIndexAndRemainder -/
def F21 (k : Value → W) (k_1 : Int) : W :=
 Req (64 ≠ (0 : Int)) <|
 Req (64 ≠ (0 : Int)) <|
 k (.tuple #[.int .u64 (quoI .u64 k_1 64), .int .u64 (remI k_1 64)])
theorem F21_eq (k : Value → W) (k_1 : Int) : compF Go.Proofs.Try.prog Go.Proofs.Try.f21 [] (Go.Proofs.Try.f21.body.getD .skip) [.int .u64 k_1] k = F21 k k_1 := by kernel_rfl
theorem F21_calls {k_1 : Int} {w : World} {R : Ending → World → Prop} (h : F21 (fun v w => R (.returned v) w) k_1 w) : Calls Go.Proofs.Try.prog 21 #[.int .u64 k_1] w R :=
  calls_of_compF noNum follows [] (f := 21) (fn := Go.Proofs.Try.f21) (body := Go.Proofs.Try.f21.body.getD .skip) (args := [.int .u64 k_1]) rfl rfl (Nat.le_of_ble_eq_true rfl) ((congrFun (F21_eq _ k_1) w).mpr h)
theorem F21_call {k_1 : Int} {w : World} {g : Fn W (RTy.leaves (.tup [(.one (.int .u64)), (.one (.int .u64))]))} (h : F21 (fun v => Back (.tup [(.one (.int .u64)), (.one (.int .u64))]) g (.returned v)) k_1 w) : CallT Go.Proofs.Try.prog 21 [.int .u64 k_1] (.tup [(.one (.int .u64)), (.one (.int .u64))]) g w := F21_calls h

/-! ## bitarray.uintSlice).search$1 -/
def F109 (k : Value → W) (i_1 : Int) (a2 : Addr) (a3 : Addr) : W :=
 Drw <|
 LoadT .slice a2 fun s4p s4l s4c =>
 NN s4p fun a5 =>
 Req (0 ≤ i_1 ∧ i_1 < ((s4l : Nat) : Int)) <|
 LoadT (.int .u64) (a5.add i_1.toNat) fun x6 =>
 LoadT (.int .u64) a3 fun x7 =>
 k (.bool (decide (x6 ≥ x7)))
theorem F109_eq (k : Value → W) (i_1 : Int) (a2 : Addr) (a3 : Addr) : compF Go.Proofs.Try.prog Go.Proofs.Try.f109 [] (Go.Proofs.Try.f109.body.getD .skip) [.int .i64 i_1, .pointer (some a2), .pointer (some a3)] k = F109 k i_1 a2 a3 := by kernel_rfl
theorem F109_calls {i_1 : Int} {a2 : Addr} {a3 : Addr} {w : World} {R : Ending → World → Prop} (h : F109 (fun v w => R (.returned v) w) i_1 a2 a3 w) : Calls Go.Proofs.Try.prog 109 #[.int .i64 i_1, .pointer (some a2), .pointer (some a3)] w R :=
  calls_of_compF noNum follows [] (f := 109) (fn := Go.Proofs.Try.f109) (body := Go.Proofs.Try.f109.body.getD .skip) (args := [.int .i64 i_1, .pointer (some a2), .pointer (some a3)]) rfl rfl (Nat.le_of_ble_eq_true rfl) ((congrFun (F109_eq _ i_1 a2 a3) w).mpr h)
theorem F109_call {i_1 : Int} {a2 : Addr} {a3 : Addr} {w : World} {g : Fn W (RTy.leaves (.s (.one .bool)))} (h : F109 (fun v => Back (.s (.one .bool)) g (.returned v)) i_1 a2 a3 w) : CallT Go.Proofs.Try.prog 109 [.int .i64 i_1, .pointer (some a2), .pointer (some a3)] (.s (.one .bool)) g w := F109_calls h

/-! ## sort.Search -/
def F108_L1 (k : Value → W) (again6 : Value → Int → Int → W) (f_3 : Value) (i_4 : Int) (j_5 : Int) : W :=
 BIf (decide (i_4 < j_5)) (
  Bind (IntKind.wrap .i64 (shrI .u64 (IntKind.wrap .u64 (addI .i64 i_4 j_5)) 1) : Int) fun h_7 =>
  NextT Go.Proofs.Try.prog (callV f_3 [.int .i64 h_7].toArray) (.s (.one .bool)) fun b8 =>
  BIf (!b8) (
   again6 f_3 (addI .i64 h_7 1) j_5) (
   again6 f_3 i_4 h_7)) (
  k (.int .i64 i_4))
theorem F108_L1_rule {k : Value → W} (I : Value → Int → Int → W) (μ : Value → Int → Int → World → Nat)
  (hr : ∀ (f_3 : Value) (i_4 : Int) (j_5 : Int) (w : World), I f_3 i_4 j_5 w → F108_L1 k (fun f_3' i_4' j_5' w' => I f_3' i_4' j_5' w' ∧ μ f_3' i_4' j_5' w' < μ f_3 i_4 j_5 w) f_3 i_4 j_5 w)
  {w : World} {f_3 : Value} {i_4 : Int} {j_5 : Int} (h : I f_3 i_4 j_5 w) : Loop [.any, (.int .i64), (.int .i64)] (F108_L1 k) f_3 i_4 j_5 w :=
  Loop_intro (ts := [.any, (.int .i64), (.int .i64)]) (s := (f_3, i_4, j_5, ())) (fun s w => I s.1 s.2.1 s.2.2.1 w) (fun s w => μ s.1 s.2.1 s.2.2.1 w) h (fun s w h => hr s.1 s.2.1 s.2.2.1 w h)
def F108 (k : Value → W) (n_1 : Int) (f_2 : Value) : W :=
 Loop [.any, (.int .i64), (.int .i64)] (F108_L1 k) f_2 0 n_1
theorem F108_eq (k : Value → W) (n_1 : Int) (f_2 : Value) : compF Go.Proofs.Try.prog Go.Proofs.Try.f108 [(2, [(1, .any), (5, (.int .i64)), (6, (.int .i64))])] (Go.Proofs.Try.f108.body.getD .skip) [.int .i64 n_1, f_2] k = F108 k n_1 f_2 := by kernel_rfl
theorem F108_calls {n_1 : Int} {f_2 : Value} {w : World} {R : Ending → World → Prop} (h : F108 (fun v w => R (.returned v) w) n_1 f_2 w) : Calls Go.Proofs.Try.prog 108 #[.int .i64 n_1, f_2] w R :=
  calls_of_compF noNum follows [(2, [(1, .any), (5, (.int .i64)), (6, (.int .i64))])] (f := 108) (fn := Go.Proofs.Try.f108) (body := Go.Proofs.Try.f108.body.getD .skip) (args := [.int .i64 n_1, f_2]) rfl rfl (Nat.le_of_ble_eq_true rfl) ((congrFun (F108_eq _ n_1 f_2) w).mpr h)
theorem F108_call {n_1 : Int} {f_2 : Value} {w : World} {g : Fn W (RTy.leaves (.s (.one (.int .i64))))} (h : F108 (fun v => Back (.s (.one (.int .i64))) g (.returned v)) n_1 f_2 w) : CallT Go.Proofs.Try.prog 108 [.int .i64 n_1, f_2] (.s (.one (.int .i64))) g w := F108_calls h

/-! ## bitarray.uintSlice).search -/
def F101 (k : Value → W) (u_1p : Option Addr) (u_1l : Nat) (u_1c : Nat) (x_2 : Int) : W :=
 New [.slice u_1p u_1l u_1c] 83 fun n3 =>
 New [.int .u64 x_2] 24 fun n4 =>
 LoadT .slice ⟨n3, 0, none⟩ fun s5p s5l s5c =>
 CallT Go.Proofs.Try.prog 108 [.int .i64 ((s5l : Nat) : Int), .func (.func 109) #[] #[.pointer (some ⟨n3, 0, none⟩), .pointer (some ⟨n4, 0, none⟩)]] (.s (.one (.int .i64))) fun x6 =>
 k (.int .i64 x6)
theorem F101_eq (k : Value → W) (u_1p : Option Addr) (u_1l : Nat) (u_1c : Nat) (x_2 : Int) : compF Go.Proofs.Try.prog Go.Proofs.Try.f101 [] (Go.Proofs.Try.f101.body.getD .skip) [.slice u_1p u_1l u_1c, .int .u64 x_2] k = F101 k u_1p u_1l u_1c x_2 := by kernel_rfl
theorem F101_calls {u_1p : Option Addr} {u_1l : Nat} {u_1c : Nat} {x_2 : Int} {w : World} {R : Ending → World → Prop} (h : F101 (fun v w => R (.returned v) w) u_1p u_1l u_1c x_2 w) : Calls Go.Proofs.Try.prog 101 #[.slice u_1p u_1l u_1c, .int .u64 x_2] w R :=
  calls_of_compF noNum follows [] (f := 101) (fn := Go.Proofs.Try.f101) (body := Go.Proofs.Try.f101.body.getD .skip) (args := [.slice u_1p u_1l u_1c, .int .u64 x_2]) rfl rfl (Nat.le_of_ble_eq_true rfl) ((congrFun (F101_eq _ u_1p u_1l u_1c x_2) w).mpr h)
theorem F101_call {u_1p : Option Addr} {u_1l : Nat} {u_1c : Nat} {x_2 : Int} {w : World} {g : Fn W (RTy.leaves (.s (.one (.int .i64))))} (h : F101 (fun v => Back (.s (.one (.int .i64))) g (.returned v)) u_1p u_1l u_1c x_2 w) : CallT Go.Proofs.Try.prog 101 [.slice u_1p u_1l u_1c, .int .u64 x_2] (.s (.one (.int .i64))) g w := F101_calls h

/-! ## bitarray.uintSlice).insert -/
def F105 (k : Value → W) (u_1 : Option Addr) (x_2 : Int) : W :=
 NN u_1 fun a3 =>
 LoadT .slice a3 fun s4p s4l s4c =>
 CallT Go.Proofs.Try.prog 101 [.slice s4p s4l s4c, .int .u64 x_2] (.s (.one (.int .i64))) fun x5 =>
 NN u_1 fun a6 =>
 LoadT .slice a6 fun s7p s7l s7c =>
 BIf (x5 == ((s7l : Nat) : Int)) (
  NN u_1 fun a8 =>
  LoadT .slice a8 fun s9p s9l s9c =>
  RawT Go.Proofs.Try.prog (Instr.buildSlice 83 1 [(0, .int .u64 x_2)].toArray) (.s (.one .slice)) fun s10p s10l s10c =>
  NextT Go.Proofs.Try.prog (builtin .append #[83, 83] 83 [false, false].toArray [.slice s9p s9l s9c, .slice s10p s10l s10c].toArray) (.s (.one .slice)) fun s11p s11l s11c =>
  NN u_1 fun a12 =>
  Store1 a12 (.slice s11p s11l s11c) <|
  k (.tuple #[.int .i64 x5, .bool true])) (
  NN u_1 fun a13 =>
  LoadT .slice a13 fun s14p s14l s14c =>
  NN s14p fun a15 =>
  Req (0 ≤ x5 ∧ x5 < ((s14l : Nat) : Int)) <|
  LoadT (.int .u64) (a15.add x5.toNat) fun x16 =>
  BIf (x16 == x_2) (
   k (.tuple #[.int .i64 x5, .bool false])) (
   NN u_1 fun a17 =>
   LoadT .slice a17 fun s18p s18l s18c =>
   RawT Go.Proofs.Try.prog (Instr.buildSlice 83 1 [(0, .int .u64 0)].toArray) (.s (.one .slice)) fun s19p s19l s19c =>
   NextT Go.Proofs.Try.prog (builtin .append #[83, 83] 83 [false, false].toArray [.slice s18p s18l s18c, .slice s19p s19l s19c].toArray) (.s (.one .slice)) fun s20p s20l s20c =>
   NN u_1 fun a21 =>
   Store1 a21 (.slice s20p s20l s20c) <|
   Drw <|
   NN u_1 fun a22 =>
   LoadT .slice a22 fun s23p s23l s23c =>
   Req (0 ≤ addI .i64 x5 1 ∧ addI .i64 x5 1 ≤ ((s23l : Nat) : Int)) <|
   NN u_1 fun a24 =>
   LoadT .slice a24 fun s25p s25l s25c =>
   Req (0 ≤ x5 ∧ x5 ≤ ((s25l : Nat) : Int)) <|
   NextT Go.Proofs.Try.prog (builtin .copy #[83, 83] 3 [false, false].toArray [.slice (sliceA s23p ((addI .i64 x5 1).toNat) s23c 1) (s23l - ((addI .i64 x5 1).toNat)) (s23c - ((addI .i64 x5 1).toNat)), .slice (sliceA s25p x5.toNat s25c 1) (s25l - x5.toNat) (s25c - x5.toNat)].toArray) (.s (.one (.int .i64))) fun x26 =>
   Chk1 a24 (.slice s25p s25l s25c) <|
   Chk1 a22 (.slice s23p s23l s23c) <|
   NN u_1 fun a27 =>
   LoadT .slice a27 fun s28p s28l s28c =>
   NN s28p fun a29 =>
   Req (0 ≤ x5 ∧ x5 < ((s28l : Nat) : Int)) <|
   Store1 (a29.add x5.toNat) (.int .u64 x_2) <|
   k (.tuple #[.int .i64 x5, .bool true])))
theorem F105_eq (k : Value → W) (u_1 : Option Addr) (x_2 : Int) : compF Go.Proofs.Try.prog Go.Proofs.Try.f105 [] (Go.Proofs.Try.f105.body.getD .skip) [.pointer u_1, .int .u64 x_2] k = F105 k u_1 x_2 := by kernel_rfl
theorem F105_calls {u_1 : Option Addr} {x_2 : Int} {w : World} {R : Ending → World → Prop} (h : F105 (fun v w => R (.returned v) w) u_1 x_2 w) : Calls Go.Proofs.Try.prog 105 #[.pointer u_1, .int .u64 x_2] w R :=
  calls_of_compF noNum follows [] (f := 105) (fn := Go.Proofs.Try.f105) (body := Go.Proofs.Try.f105.body.getD .skip) (args := [.pointer u_1, .int .u64 x_2]) rfl rfl (Nat.le_of_ble_eq_true rfl) ((congrFun (F105_eq _ u_1 x_2) w).mpr h)
theorem F105_call {u_1 : Option Addr} {x_2 : Int} {w : World} {g : Fn W (RTy.leaves (.tup [(.one (.int .i64)), (.one .bool)]))} (h : F105 (fun v => Back (.tup [(.one (.int .i64)), (.one .bool)]) g (.returned v)) u_1 x_2 w) : CallT Go.Proofs.Try.prog 105 [.pointer u_1, .int .u64 x_2] (.tup [(.one (.int .i64)), (.one .bool)]) g w := F105_calls h

/-! ## bitarray.blocks).insert -/
def F106 (k : Value → W) (b_1 : Option Addr) (index_2 : Int) : W :=
 NN b_1 fun a3 =>
 LoadT .slice a3 fun s4p s4l s4c =>
 BIf (index_2 == ((s4l : Nat) : Int)) (
  NN b_1 fun a5 =>
  LoadT .slice a5 fun s6p s6l s6c =>
  RawT Go.Proofs.Try.prog (Instr.buildSlice 82 1 [(0, .int .u64 0)].toArray) (.s (.one .slice)) fun s7p s7l s7c =>
  NextT Go.Proofs.Try.prog (builtin .append #[82, 82] 82 [false, false].toArray [.slice s6p s6l s6c, .slice s7p s7l s7c].toArray) (.s (.one .slice)) fun s8p s8l s8c =>
  NN b_1 fun a9 =>
  Store1 a9 (.slice s8p s8l s8c) <|
  k (.tuple #[])) (
  NN b_1 fun a10 =>
  LoadT .slice a10 fun s11p s11l s11c =>
  RawT Go.Proofs.Try.prog (Instr.buildSlice 82 1 [(0, .int .u64 0)].toArray) (.s (.one .slice)) fun s12p s12l s12c =>
  NextT Go.Proofs.Try.prog (builtin .append #[82, 82] 82 [false, false].toArray [.slice s11p s11l s11c, .slice s12p s12l s12c].toArray) (.s (.one .slice)) fun s13p s13l s13c =>
  NN b_1 fun a14 =>
  Store1 a14 (.slice s13p s13l s13c) <|
  Drw <|
  NN b_1 fun a15 =>
  LoadT .slice a15 fun s16p s16l s16c =>
  Req (0 ≤ addI .i64 index_2 1 ∧ addI .i64 index_2 1 ≤ ((s16l : Nat) : Int)) <|
  NN b_1 fun a17 =>
  LoadT .slice a17 fun s18p s18l s18c =>
  Req (0 ≤ index_2 ∧ index_2 ≤ ((s18l : Nat) : Int)) <|
  NextT Go.Proofs.Try.prog (builtin .copy #[82, 82] 3 [false, false].toArray [.slice (sliceA s16p ((addI .i64 index_2 1).toNat) s16c 1) (s16l - ((addI .i64 index_2 1).toNat)) (s16c - ((addI .i64 index_2 1).toNat)), .slice (sliceA s18p index_2.toNat s18c 1) (s18l - index_2.toNat) (s18c - index_2.toNat)].toArray) (.s (.one (.int .i64))) fun x19 =>
  Chk1 a17 (.slice s18p s18l s18c) <|
  Chk1 a15 (.slice s16p s16l s16c) <|
  NN b_1 fun a20 =>
  LoadT .slice a20 fun s21p s21l s21c =>
  NN s21p fun a22 =>
  Req (0 ≤ index_2 ∧ index_2 < ((s21l : Nat) : Int)) <|
  Store1 (a22.add index_2.toNat) (.int .u64 0) <|
  k (.tuple #[]))
theorem F106_eq (k : Value → W) (b_1 : Option Addr) (index_2 : Int) : compF Go.Proofs.Try.prog Go.Proofs.Try.f106 [] (Go.Proofs.Try.f106.body.getD .skip) [.pointer b_1, .int .i64 index_2] k = F106 k b_1 index_2 := by kernel_rfl
theorem F106_calls {b_1 : Option Addr} {index_2 : Int} {w : World} {R : Ending → World → Prop} (h : F106 (fun v w => R (.returned v) w) b_1 index_2 w) : Calls Go.Proofs.Try.prog 106 #[.pointer b_1, .int .i64 index_2] w R :=
  calls_of_compF noNum follows [] (f := 106) (fn := Go.Proofs.Try.f106) (body := Go.Proofs.Try.f106.body.getD .skip) (args := [.pointer b_1, .int .i64 index_2]) rfl rfl (Nat.le_of_ble_eq_true rfl) ((congrFun (F106_eq _ b_1 index_2) w).mpr h)
theorem F106_call {b_1 : Option Addr} {index_2 : Int} {w : World} {g : Fn W (RTy.leaves (.tup []))} (h : F106 (fun v => Back (.tup []) g (.returned v)) b_1 index_2 w) : CallT Go.Proofs.Try.prog 106 [.pointer b_1, .int .i64 index_2] (.tup []) g w := F106_calls h

/-! ## bitarray.sparseBitArray).SetBit -/
def F94_J1 (k : Value → W) (sba_9 : Option Addr) (position_10 : Int) (i_11 : Int) : W :=
 Drw <|
 NN sba_9 fun a12 =>
 LoadT .slice a12 fun s13p s13l s13c =>
 NN sba_9 fun a14 =>
 LoadT .slice a14 fun s15p s15l s15c =>
 NN s15p fun a16 =>
 Req (0 ≤ i_11 ∧ i_11 < ((s15l : Nat) : Int)) <|
 LoadT (.int .u64) (a16.add i_11.toNat) fun x17 =>
 CallT Go.Proofs.Try.prog 67 [.int .u64 x17, .int .u64 position_10] (.s (.one (.int .u64))) fun x18 =>
 Chk1 a14 (.slice s15p s15l s15c) <|
 Chk1 a12 (.slice s13p s13l s13c) <|
 NN s13p fun a19 =>
 Req (0 ≤ i_11 ∧ i_11 < ((s13l : Nat) : Int)) <|
 Store1 (a19.add i_11.toNat) (.int .u64 x18) <|
 k .nilIface
def F94 (k : Value → W) (sba_1 : Option Addr) (k_2 : Int) : W :=
 CallT Go.Proofs.Try.prog 21 [.int .u64 k_2] (.tup [(.one (.int .u64)), (.one (.int .u64))]) fun x3 x4 =>
 NN sba_1 fun a5 =>
 CallT Go.Proofs.Try.prog 105 [.pointer (some (a5.add 1)), .int .u64 x3] (.tup [(.one (.int .i64)), (.one .bool)]) fun x6 b7 =>
 BIf b7 (
  NN sba_1 fun a8 =>
  CallT Go.Proofs.Try.prog 106 [.pointer (some a8), .int .i64 x6] (.tup []) <|
  F94_J1 k sba_1 x4 x6) (
  F94_J1 k sba_1 x4 x6)
theorem F94_eq (k : Value → W) (sba_1 : Option Addr) (k_2 : Int) : compF Go.Proofs.Try.prog Go.Proofs.Try.f94 [] (Go.Proofs.Try.f94.body.getD .skip) [.pointer sba_1, .int .u64 k_2] k = F94 k sba_1 k_2 := by kernel_rfl
theorem F94_calls {sba_1 : Option Addr} {k_2 : Int} {w : World} {R : Ending → World → Prop} (h : F94 (fun v w => R (.returned v) w) sba_1 k_2 w) : Calls Go.Proofs.Try.prog 94 #[.pointer sba_1, .int .u64 k_2] w R :=
  calls_of_compF noNum follows [] (f := 94) (fn := Go.Proofs.Try.f94) (body := Go.Proofs.Try.f94.body.getD .skip) (args := [.pointer sba_1, .int .u64 k_2]) rfl rfl (Nat.le_of_ble_eq_true rfl) ((congrFun (F94_eq _ sba_1 k_2) w).mpr h)
theorem F94_call {sba_1 : Option Addr} {k_2 : Int} {w : World} {g : Fn W (RTy.leaves (.s (.one .any)))} (h : F94 (fun v => Back (.s (.one .any)) g (.returned v)) sba_1 k_2 w) : CallT Go.Proofs.Try.prog 94 [.pointer sba_1, .int .u64 k_2] (.s (.one .any)) g w := F94_calls h

/-! ## bitarray.maxInt64 -/
def F107_L1 (k : Value → W) (again7 : Option Addr → Nat → Nat → Int → Int → W) (ints_4p : Option Addr) (ints_4l : Nat) (ints_4c : Nat) (maxInt_5 : Int) (i_6 : Int) : W :=
 BIf (decide (i_6 < ((ints_4l : Nat) : Int))) (
  NN ints_4p fun a8 =>
  Req (0 ≤ i_6 ∧ i_6 < ((ints_4l : Nat) : Int)) <|
  LoadT (.int .i64) (a8.add i_6.toNat) fun x9 =>
  BIf (decide (x9 > maxInt_5)) (
   NN ints_4p fun a10 =>
   Req (0 ≤ i_6 ∧ i_6 < ((ints_4l : Nat) : Int)) <|
   LoadT (.int .i64) (a10.add i_6.toNat) fun x11 =>
   again7 ints_4p ints_4l ints_4c x11 (addI .i64 i_6 1)) (
   again7 ints_4p ints_4l ints_4c maxInt_5 (addI .i64 i_6 1))) (
  k (.int .i64 maxInt_5))
theorem F107_L1_rule {k : Value → W} (I : Option Addr → Nat → Nat → Int → Int → W) (μ : Option Addr → Nat → Nat → Int → Int → World → Nat)
  (hr : ∀ (ints_4p : Option Addr) (ints_4l : Nat) (ints_4c : Nat) (maxInt_5 : Int) (i_6 : Int) (w : World), I ints_4p ints_4l ints_4c maxInt_5 i_6 w → F107_L1 k (fun ints_4p' ints_4l' ints_4c' maxInt_5' i_6' w' => I ints_4p' ints_4l' ints_4c' maxInt_5' i_6' w' ∧ μ ints_4p' ints_4l' ints_4c' maxInt_5' i_6' w' < μ ints_4p ints_4l ints_4c maxInt_5 i_6 w) ints_4p ints_4l ints_4c maxInt_5 i_6 w)
  {w : World} {ints_4p : Option Addr} {ints_4l : Nat} {ints_4c : Nat} {maxInt_5 : Int} {i_6 : Int} (h : I ints_4p ints_4l ints_4c maxInt_5 i_6 w) : Loop [.slice, (.int .i64), (.int .i64)] (F107_L1 k) ints_4p ints_4l ints_4c maxInt_5 i_6 w :=
  Loop_intro (ts := [.slice, (.int .i64), (.int .i64)]) (s := ((ints_4p, ints_4l, ints_4c), maxInt_5, i_6, ())) (fun s w => I s.1.1 s.1.2.1 s.1.2.2 s.2.1 s.2.2.1 w) (fun s w => μ s.1.1 s.1.2.1 s.1.2.2 s.2.1 s.2.2.1 w) h (fun s w h => hr s.1.1 s.1.2.1 s.1.2.2 s.2.1 s.2.2.1 w h)
def F107 (k : Value → W) (ints_1p : Option Addr) (ints_1l : Nat) (ints_1c : Nat) : W :=
 NN ints_1p fun a2 =>
 Req (0 ≤ (0 : Int) ∧ (0 : Int) < ((ints_1l : Nat) : Int)) <|
 LoadT (.int .i64) (a2.add ((0 : Int).toNat)) fun x3 =>
 Loop [.slice, (.int .i64), (.int .i64)] (F107_L1 k) ints_1p ints_1l ints_1c x3 1
theorem F107_eq (k : Value → W) (ints_1p : Option Addr) (ints_1l : Nat) (ints_1c : Nat) : compF Go.Proofs.Try.prog Go.Proofs.Try.f107 [(3, [(0, .slice), (3, (.int .i64)), (4, (.int .i64))])] (Go.Proofs.Try.f107.body.getD .skip) [.slice ints_1p ints_1l ints_1c] k = F107 k ints_1p ints_1l ints_1c := by kernel_rfl
theorem F107_calls {ints_1p : Option Addr} {ints_1l : Nat} {ints_1c : Nat} {w : World} {R : Ending → World → Prop} (h : F107 (fun v w => R (.returned v) w) ints_1p ints_1l ints_1c w) : Calls Go.Proofs.Try.prog 107 #[.slice ints_1p ints_1l ints_1c] w R :=
  calls_of_compF noNum follows [(3, [(0, .slice), (3, (.int .i64)), (4, (.int .i64))])] (f := 107) (fn := Go.Proofs.Try.f107) (body := Go.Proofs.Try.f107.body.getD .skip) (args := [.slice ints_1p ints_1l ints_1c]) rfl rfl (Nat.le_of_ble_eq_true rfl) ((congrFun (F107_eq _ ints_1p ints_1l ints_1c) w).mpr h)
theorem F107_call {ints_1p : Option Addr} {ints_1l : Nat} {ints_1c : Nat} {w : World} {g : Fn W (RTy.leaves (.s (.one (.int .i64))))} (h : F107 (fun v => Back (.s (.one (.int .i64))) g (.returned v)) ints_1p ints_1l ints_1c w) : CallT Go.Proofs.Try.prog 107 [.slice ints_1p ints_1l ints_1c] (.s (.one (.int .i64))) g w := F107_calls h

/-! ## bitarray.orSparseWithSparseBitArray -/
def F104_J2 (k : Value → W) (indices_35p : Option Addr) (indices_35l : Nat) (indices_35c : Nat) (blocks_36p : Option Addr) (blocks_36l : Nat) (blocks_36c : Nat) : W :=
 New [.slice blocks_36p blocks_36l blocks_36c, .slice indices_35p indices_35l indices_35c] 85 fun n37 =>
 k (.iface 73 (.pointer (some ⟨n37, 0, none⟩)))
def F104_J1 (k : Value → W) (again23 : Option Addr → Option Addr → Option Addr → Nat → Nat → Option Addr → Nat → Nat → Int → Int → W) (sba_28 : Option Addr) (other_29 : Option Addr) (indices_30p : Option Addr) (indices_30l : Nat) (indices_30c : Nat) (blocks_31p : Option Addr) (blocks_31l : Nat) (blocks_31c : Nat) (selfIndex_32 : Int) (otherIndex_33 : Int) (b34 : Bool) : W :=
 BIf b34 (
  F104_J2 k indices_30p indices_30l indices_30c blocks_31p blocks_31l blocks_31c) (
  NN sba_28 fun a38 =>
  LoadT .slice (a38.add 1) fun s39p s39l s39c =>
  BIf (selfIndex_32 == ((s39l : Nat) : Int)) (
   NN other_29 fun a40 =>
   LoadT .slice (a40.add 1) fun s41p s41l s41c =>
   Req (0 ≤ otherIndex_33 ∧ otherIndex_33 ≤ ((s41l : Nat) : Int)) <|
   NextT Go.Proofs.Try.prog (builtin .append #[83, 83] 83 [false, false].toArray [.slice indices_30p indices_30l indices_30c, .slice (sliceA s41p otherIndex_33.toNat s41c 1) (s41l - otherIndex_33.toNat) (s41c - otherIndex_33.toNat)].toArray) (.s (.one .slice)) fun s42p s42l s42c =>
   NN other_29 fun a43 =>
   LoadT .slice a43 fun s44p s44l s44c =>
   Req (0 ≤ otherIndex_33 ∧ otherIndex_33 ≤ ((s44l : Nat) : Int)) <|
   NextT Go.Proofs.Try.prog (builtin .append #[82, 82] 82 [false, false].toArray [.slice blocks_31p blocks_31l blocks_31c, .slice (sliceA s44p otherIndex_33.toNat s44c 1) (s44l - otherIndex_33.toNat) (s44c - otherIndex_33.toNat)].toArray) (.s (.one .slice)) fun s45p s45l s45c =>
   F104_J2 k s42p s42l s42c s45p s45l s45c) (
   NN other_29 fun a46 =>
   LoadT .slice (a46.add 1) fun s47p s47l s47c =>
   BIf (otherIndex_33 == ((s47l : Nat) : Int)) (
    NN sba_28 fun a48 =>
    LoadT .slice (a48.add 1) fun s49p s49l s49c =>
    Req (0 ≤ selfIndex_32 ∧ selfIndex_32 ≤ ((s49l : Nat) : Int)) <|
    NextT Go.Proofs.Try.prog (builtin .append #[83, 83] 83 [false, false].toArray [.slice indices_30p indices_30l indices_30c, .slice (sliceA s49p selfIndex_32.toNat s49c 1) (s49l - selfIndex_32.toNat) (s49c - selfIndex_32.toNat)].toArray) (.s (.one .slice)) fun s50p s50l s50c =>
    NN sba_28 fun a51 =>
    LoadT .slice a51 fun s52p s52l s52c =>
    Req (0 ≤ selfIndex_32 ∧ selfIndex_32 ≤ ((s52l : Nat) : Int)) <|
    NextT Go.Proofs.Try.prog (builtin .append #[82, 82] 82 [false, false].toArray [.slice blocks_31p blocks_31l blocks_31c, .slice (sliceA s52p selfIndex_32.toNat s52c 1) (s52l - selfIndex_32.toNat) (s52c - selfIndex_32.toNat)].toArray) (.s (.one .slice)) fun s53p s53l s53c =>
    F104_J2 k s50p s50l s50c s53p s53l s53c) (
    NN sba_28 fun a54 =>
    LoadT .slice (a54.add 1) fun s55p s55l s55c =>
    NN s55p fun a56 =>
    Req (0 ≤ selfIndex_32 ∧ selfIndex_32 < ((s55l : Nat) : Int)) <|
    LoadT (.int .u64) (a56.add selfIndex_32.toNat) fun x57 =>
    NN other_29 fun a58 =>
    LoadT .slice (a58.add 1) fun s59p s59l s59c =>
    NN s59p fun a60 =>
    Req (0 ≤ otherIndex_33 ∧ otherIndex_33 < ((s59l : Nat) : Int)) <|
    LoadT (.int .u64) (a60.add otherIndex_33.toNat) fun x61 =>
    Bind (subI .i64 (IntKind.wrap .i64 x61) (IntKind.wrap .i64 x57) : Int) fun diff_62 =>
    BIf (decide (diff_62 > 0)) (
     RawT Go.Proofs.Try.prog (Instr.buildSlice 83 1 [(0, .int .u64 x57)].toArray) (.s (.one .slice)) fun s63p s63l s63c =>
     NextT Go.Proofs.Try.prog (builtin .append #[83, 83] 83 [false, false].toArray [.slice indices_30p indices_30l indices_30c, .slice s63p s63l s63c].toArray) (.s (.one .slice)) fun s64p s64l s64c =>
     NN sba_28 fun a65 =>
     LoadT .slice a65 fun s66p s66l s66c =>
     NN s66p fun a67 =>
     Req (0 ≤ selfIndex_32 ∧ selfIndex_32 < ((s66l : Nat) : Int)) <|
     LoadT (.int .u64) (a67.add selfIndex_32.toNat) fun x68 =>
     RawT Go.Proofs.Try.prog (Instr.buildSlice 82 1 [(0, .int .u64 x68)].toArray) (.s (.one .slice)) fun s69p s69l s69c =>
     NextT Go.Proofs.Try.prog (builtin .append #[82, 82] 82 [false, false].toArray [.slice blocks_31p blocks_31l blocks_31c, .slice s69p s69l s69c].toArray) (.s (.one .slice)) fun s70p s70l s70c =>
     again23 sba_28 other_29 s64p s64l s64c s70p s70l s70c (addI .i64 selfIndex_32 1) otherIndex_33) (
     BIf (decide (diff_62 < 0)) (
      RawT Go.Proofs.Try.prog (Instr.buildSlice 83 1 [(0, .int .u64 x61)].toArray) (.s (.one .slice)) fun s71p s71l s71c =>
      NextT Go.Proofs.Try.prog (builtin .append #[83, 83] 83 [false, false].toArray [.slice indices_30p indices_30l indices_30c, .slice s71p s71l s71c].toArray) (.s (.one .slice)) fun s72p s72l s72c =>
      NN other_29 fun a73 =>
      LoadT .slice a73 fun s74p s74l s74c =>
      NN s74p fun a75 =>
      Req (0 ≤ otherIndex_33 ∧ otherIndex_33 < ((s74l : Nat) : Int)) <|
      LoadT (.int .u64) (a75.add otherIndex_33.toNat) fun x76 =>
      RawT Go.Proofs.Try.prog (Instr.buildSlice 82 1 [(0, .int .u64 x76)].toArray) (.s (.one .slice)) fun s77p s77l s77c =>
      NextT Go.Proofs.Try.prog (builtin .append #[82, 82] 82 [false, false].toArray [.slice blocks_31p blocks_31l blocks_31c, .slice s77p s77l s77c].toArray) (.s (.one .slice)) fun s78p s78l s78c =>
      Bind (addI .i64 otherIndex_33 1 : Int) fun otherIndex_79 =>
      again23 sba_28 other_29 s72p s72l s72c s78p s78l s78c selfIndex_32 otherIndex_79) (
      RawT Go.Proofs.Try.prog (Instr.buildSlice 83 1 [(0, .int .u64 x61)].toArray) (.s (.one .slice)) fun s80p s80l s80c =>
      NextT Go.Proofs.Try.prog (builtin .append #[83, 83] 83 [false, false].toArray [.slice indices_30p indices_30l indices_30c, .slice s80p s80l s80c].toArray) (.s (.one .slice)) fun s81p s81l s81c =>
      Drw <|
      NN sba_28 fun a82 =>
      LoadT .slice a82 fun s83p s83l s83c =>
      NN s83p fun a84 =>
      Req (0 ≤ selfIndex_32 ∧ selfIndex_32 < ((s83l : Nat) : Int)) <|
      LoadT (.int .u64) (a84.add selfIndex_32.toNat) fun x85 =>
      NN other_29 fun a86 =>
      LoadT .slice a86 fun s87p s87l s87c =>
      NN s87p fun a88 =>
      Req (0 ≤ otherIndex_33 ∧ otherIndex_33 < ((s87l : Nat) : Int)) <|
      LoadT (.int .u64) (a88.add otherIndex_33.toNat) fun x89 =>
      CallT Go.Proofs.Try.prog 80 [.int .u64 x85, .int .u64 x89] (.s (.one (.int .u64))) fun x90 =>
      Chk1 a86 (.slice s87p s87l s87c) <|
      Chk1 a82 (.slice s83p s83l s83c) <|
      RawT Go.Proofs.Try.prog (Instr.buildSlice 82 1 [(0, .int .u64 x90)].toArray) (.s (.one .slice)) fun s91p s91l s91c =>
      Chk1 (a88.add otherIndex_33.toNat) (.int .u64 x89) <|
      Chk1 a86 (.slice s87p s87l s87c) <|
      Chk1 (a84.add selfIndex_32.toNat) (.int .u64 x85) <|
      Chk1 a82 (.slice s83p s83l s83c) <|
      NextT Go.Proofs.Try.prog (builtin .append #[82, 82] 82 [false, false].toArray [.slice blocks_31p blocks_31l blocks_31c, .slice s91p s91l s91c].toArray) (.s (.one .slice)) fun s92p s92l s92c =>
      Chk1 (a88.add otherIndex_33.toNat) (.int .u64 x89) <|
      Chk1 a86 (.slice s87p s87l s87c) <|
      Chk1 (a84.add selfIndex_32.toNat) (.int .u64 x85) <|
      Chk1 a82 (.slice s83p s83l s83c) <|
      Bind (addI .i64 otherIndex_33 1 : Int) fun otherIndex_93 =>
      again23 sba_28 other_29 s81p s81l s81c s92p s92l s92c (addI .i64 selfIndex_32 1) otherIndex_93)))))
def F104_L1 (k : Value → W) (again23 : Option Addr → Option Addr → Option Addr → Nat → Nat → Option Addr → Nat → Nat → Int → Int → W) (sba_17 : Option Addr) (other_18 : Option Addr) (indices_19p : Option Addr) (indices_19l : Nat) (indices_19c : Nat) (blocks_20p : Option Addr) (blocks_20l : Nat) (blocks_20c : Nat) (selfIndex_21 : Int) (otherIndex_22 : Int) : W :=
 NN sba_17 fun a24 =>
 LoadT .slice (a24.add 1) fun s25p s25l s25c =>
 BIf (selfIndex_21 == ((s25l : Nat) : Int)) (
  NN other_18 fun a26 =>
  LoadT .slice (a26.add 1) fun s27p s27l s27c =>
  F104_J1 k again23 sba_17 other_18 indices_19p indices_19l indices_19c blocks_20p blocks_20l blocks_20c selfIndex_21 otherIndex_22 (otherIndex_22 == ((s27l : Nat) : Int))) (
  F104_J1 k again23 sba_17 other_18 indices_19p indices_19l indices_19c blocks_20p blocks_20l blocks_20c selfIndex_21 otherIndex_22 false)
theorem F104_L1_rule {k : Value → W} (I : Option Addr → Option Addr → Option Addr → Nat → Nat → Option Addr → Nat → Nat → Int → Int → W) (μ : Option Addr → Option Addr → Option Addr → Nat → Nat → Option Addr → Nat → Nat → Int → Int → World → Nat)
  (hr : ∀ (sba_17 : Option Addr) (other_18 : Option Addr) (indices_19p : Option Addr) (indices_19l : Nat) (indices_19c : Nat) (blocks_20p : Option Addr) (blocks_20l : Nat) (blocks_20c : Nat) (selfIndex_21 : Int) (otherIndex_22 : Int) (w : World), I sba_17 other_18 indices_19p indices_19l indices_19c blocks_20p blocks_20l blocks_20c selfIndex_21 otherIndex_22 w → F104_L1 k (fun sba_17' other_18' indices_19p' indices_19l' indices_19c' blocks_20p' blocks_20l' blocks_20c' selfIndex_21' otherIndex_22' w' => I sba_17' other_18' indices_19p' indices_19l' indices_19c' blocks_20p' blocks_20l' blocks_20c' selfIndex_21' otherIndex_22' w' ∧ μ sba_17' other_18' indices_19p' indices_19l' indices_19c' blocks_20p' blocks_20l' blocks_20c' selfIndex_21' otherIndex_22' w' < μ sba_17 other_18 indices_19p indices_19l indices_19c blocks_20p blocks_20l blocks_20c selfIndex_21 otherIndex_22 w) sba_17 other_18 indices_19p indices_19l indices_19c blocks_20p blocks_20l blocks_20c selfIndex_21 otherIndex_22 w)
  {w : World} {sba_17 : Option Addr} {other_18 : Option Addr} {indices_19p : Option Addr} {indices_19l : Nat} {indices_19c : Nat} {blocks_20p : Option Addr} {blocks_20l : Nat} {blocks_20c : Nat} {selfIndex_21 : Int} {otherIndex_22 : Int} (h : I sba_17 other_18 indices_19p indices_19l indices_19c blocks_20p blocks_20l blocks_20c selfIndex_21 otherIndex_22 w) : Loop [.ptr, .ptr, .slice, .slice, (.int .i64), (.int .i64)] (F104_L1 k) sba_17 other_18 indices_19p indices_19l indices_19c blocks_20p blocks_20l blocks_20c selfIndex_21 otherIndex_22 w :=
  Loop_intro (ts := [.ptr, .ptr, .slice, .slice, (.int .i64), (.int .i64)]) (s := (sba_17, other_18, (indices_19p, indices_19l, indices_19c), (blocks_20p, blocks_20l, blocks_20c), selfIndex_21, otherIndex_22, ())) (fun s w => I s.1 s.2.1 s.2.2.1.1 s.2.2.1.2.1 s.2.2.1.2.2 s.2.2.2.1.1 s.2.2.2.1.2.1 s.2.2.2.1.2.2 s.2.2.2.2.1 s.2.2.2.2.2.1 w) (fun s w => μ s.1 s.2.1 s.2.2.1.1 s.2.2.1.2.1 s.2.2.1.2.2 s.2.2.2.1.1 s.2.2.2.1.2.1 s.2.2.2.1.2.2 s.2.2.2.2.1 s.2.2.2.2.2.1 w) h (fun s w h => hr s.1 s.2.1 s.2.2.1.1 s.2.2.1.2.1 s.2.2.1.2.2 s.2.2.2.1.1 s.2.2.2.1.2.1 s.2.2.2.1.2.2 s.2.2.2.2.1 s.2.2.2.2.2.1 w h)
def F104 (k : Value → W) (sba_1 : Option Addr) (other_2 : Option Addr) : W :=
 NN other_2 fun a3 =>
 LoadT .slice (a3.add 1) fun s4p s4l s4c =>
 BIf (((s4l : Nat) : Int) == 0) (
  CallT Go.Proofs.Try.prog 71 [.pointer sba_1] (.s (.one .ptr)) fun p5 =>
  k (.iface 73 (.pointer p5))) (
  NN sba_1 fun a6 =>
  LoadT .slice (a6.add 1) fun s7p s7l s7c =>
  BIf (((s7l : Nat) : Int) == 0) (
   CallT Go.Proofs.Try.prog 71 [.pointer other_2] (.s (.one .ptr)) fun p8 =>
   k (.iface 73 (.pointer p8))) (
   Drw <|
   NN sba_1 fun a9 =>
   LoadT .slice (a9.add 1) fun s10p s10l s10c =>
   NN other_2 fun a11 =>
   LoadT .slice (a11.add 1) fun s12p s12l s12c =>
   RawT Go.Proofs.Try.prog (Instr.buildSlice 138 2 [(0, .int .i64 ((s10l : Nat) : Int)), (1, .int .i64 ((s12l : Nat) : Int))].toArray) (.s (.one .slice)) fun s13p s13l s13c =>
   Chk1 (a11.add 1) (.slice s12p s12l s12c) <|
   Chk1 (a9.add 1) (.slice s10p s10l s10c) <|
   CallT Go.Proofs.Try.prog 107 [.slice s13p s13l s13c] (.s (.one (.int .i64))) fun x14 =>
   Chk1 (a11.add 1) (.slice s12p s12l s12c) <|
   Chk1 (a9.add 1) (.slice s10p s10l s10c) <|
   RawT Go.Proofs.Try.prog (Instr.makeSlice 83 (.int .i64 0) (.int .i64 x14)) (.s (.one .slice)) fun s15p s15l s15c =>
   RawT Go.Proofs.Try.prog (Instr.makeSlice 82 (.int .i64 0) (.int .i64 x14)) (.s (.one .slice)) fun s16p s16l s16c =>
   Loop [.ptr, .ptr, .slice, .slice, (.int .i64), (.int .i64)] (F104_L1 k) sba_1 other_2 s15p s15l s15c s16p s16l s16c 0 0))
theorem F104_eq (k : Value → W) (sba_1 : Option Addr) (other_2 : Option Addr) : compF Go.Proofs.Try.prog Go.Proofs.Try.f104 [(10, [(0, .ptr), (1, .ptr), (6, .slice), (7, .slice), (8, (.int .i64)), (9, (.int .i64))])] (Go.Proofs.Try.f104.body.getD .skip) [.pointer sba_1, .pointer other_2] k = F104 k sba_1 other_2 := by kernel_rfl
theorem F104_calls {sba_1 : Option Addr} {other_2 : Option Addr} {w : World} {R : Ending → World → Prop} (h : F104 (fun v w => R (.returned v) w) sba_1 other_2 w) : Calls Go.Proofs.Try.prog 104 #[.pointer sba_1, .pointer other_2] w R :=
  calls_of_compF noNum follows [(10, [(0, .ptr), (1, .ptr), (6, .slice), (7, .slice), (8, (.int .i64)), (9, (.int .i64))])] (f := 104) (fn := Go.Proofs.Try.f104) (body := Go.Proofs.Try.f104.body.getD .skip) (args := [.pointer sba_1, .pointer other_2]) rfl rfl (Nat.le_of_ble_eq_true rfl) ((congrFun (F104_eq _ sba_1 other_2) w).mpr h)
theorem F104_call {sba_1 : Option Addr} {other_2 : Option Addr} {w : World} {g : Fn W (RTy.leaves (.s (.one .any)))} (h : F104 (fun v => Back (.s (.one .any)) g (.returned v)) sba_1 other_2 w) : CallT Go.Proofs.Try.prog 104 [.pointer sba_1, .pointer other_2] (.s (.one .any)) g w := F104_calls h

/-! ## bitarray.andSparseWithSparseBitArray -/
def F96_J1 (k : Value → W) (indices_20p : Option Addr) (indices_20l : Nat) (indices_20c : Nat) (blocks_21p : Option Addr) (blocks_21l : Nat) (blocks_21c : Nat) : W :=
 New [.slice blocks_21p blocks_21l blocks_21c, .slice indices_20p indices_20l indices_20c] 85 fun n22 =>
 k (.iface 73 (.pointer (some ⟨n22, 0, none⟩)))
def F96_J2 (k : Value → W) (again17 : Option Addr → Option Addr → Option Addr → Nat → Nat → Option Addr → Nat → Nat → Int → Int → W) (sba_47 : Option Addr) (other_48 : Option Addr) (indices_49p : Option Addr) (indices_49l : Nat) (indices_49c : Nat) (blocks_50p : Option Addr) (blocks_50l : Nat) (blocks_50c : Nat) (selfIndex_51 : Int) (otherIndex_52 : Int) : W :=
 Bind (addI .i64 otherIndex_52 1 : Int) fun otherIndex_53 =>
 again17 sba_47 other_48 indices_49p indices_49l indices_49c blocks_50p blocks_50l blocks_50c (addI .i64 selfIndex_51 1) otherIndex_53
def F96_L1 (k : Value → W) (again17 : Option Addr → Option Addr → Option Addr → Nat → Nat → Option Addr → Nat → Nat → Int → Int → W) (sba_11 : Option Addr) (other_12 : Option Addr) (indices_13p : Option Addr) (indices_13l : Nat) (indices_13c : Nat) (blocks_14p : Option Addr) (blocks_14l : Nat) (blocks_14c : Nat) (selfIndex_15 : Int) (otherIndex_16 : Int) : W :=
 NN sba_11 fun a18 =>
 LoadT .slice (a18.add 1) fun s19p s19l s19c =>
 BIf (selfIndex_15 == ((s19l : Nat) : Int)) (
  F96_J1 k indices_13p indices_13l indices_13c blocks_14p blocks_14l blocks_14c) (
  NN other_12 fun a23 =>
  LoadT .slice (a23.add 1) fun s24p s24l s24c =>
  BIf (otherIndex_16 == ((s24l : Nat) : Int)) (
   F96_J1 k indices_13p indices_13l indices_13c blocks_14p blocks_14l blocks_14c) (
   NN sba_11 fun a25 =>
   LoadT .slice (a25.add 1) fun s26p s26l s26c =>
   NN s26p fun a27 =>
   Req (0 ≤ selfIndex_15 ∧ selfIndex_15 < ((s26l : Nat) : Int)) <|
   LoadT (.int .u64) (a27.add selfIndex_15.toNat) fun x28 =>
   NN other_12 fun a29 =>
   LoadT .slice (a29.add 1) fun s30p s30l s30c =>
   NN s30p fun a31 =>
   Req (0 ≤ otherIndex_16 ∧ otherIndex_16 < ((s30l : Nat) : Int)) <|
   LoadT (.int .u64) (a31.add otherIndex_16.toNat) fun x32 =>
   BIf (decide (x32 < x28)) (
    Bind (addI .i64 otherIndex_16 1 : Int) fun otherIndex_33 =>
    again17 sba_11 other_12 indices_13p indices_13l indices_13c blocks_14p blocks_14l blocks_14c selfIndex_15 otherIndex_33) (
    BIf (decide (x32 > x28)) (
     again17 sba_11 other_12 indices_13p indices_13l indices_13c blocks_14p blocks_14l blocks_14c (addI .i64 selfIndex_15 1) otherIndex_16) (
     Drw <|
     NN sba_11 fun a34 =>
     LoadT .slice a34 fun s35p s35l s35c =>
     NN s35p fun a36 =>
     Req (0 ≤ selfIndex_15 ∧ selfIndex_15 < ((s35l : Nat) : Int)) <|
     LoadT (.int .u64) (a36.add selfIndex_15.toNat) fun x37 =>
     NN other_12 fun a38 =>
     LoadT .slice a38 fun s39p s39l s39c =>
     NN s39p fun a40 =>
     Req (0 ≤ otherIndex_16 ∧ otherIndex_16 < ((s39l : Nat) : Int)) <|
     LoadT (.int .u64) (a40.add otherIndex_16.toNat) fun x41 =>
     CallT Go.Proofs.Try.prog 70 [.int .u64 x37, .int .u64 x41] (.s (.one (.int .u64))) fun x42 =>
     Chk1 a38 (.slice s39p s39l s39c) <|
     Chk1 a34 (.slice s35p s35l s35c) <|
     BIf (decide (x42 > 0)) (
      RawT Go.Proofs.Try.prog (Instr.buildSlice 83 1 [(0, .int .u64 x28)].toArray) (.s (.one .slice)) fun s43p s43l s43c =>
      NextT Go.Proofs.Try.prog (builtin .append #[83, 83] 83 [false, false].toArray [.slice indices_13p indices_13l indices_13c, .slice s43p s43l s43c].toArray) (.s (.one .slice)) fun s44p s44l s44c =>
      RawT Go.Proofs.Try.prog (Instr.buildSlice 82 1 [(0, .int .u64 x42)].toArray) (.s (.one .slice)) fun s45p s45l s45c =>
      NextT Go.Proofs.Try.prog (builtin .append #[82, 82] 82 [false, false].toArray [.slice blocks_14p blocks_14l blocks_14c, .slice s45p s45l s45c].toArray) (.s (.one .slice)) fun s46p s46l s46c =>
      F96_J2 k again17 sba_11 other_12 s44p s44l s44c s46p s46l s46c selfIndex_15 otherIndex_16) (
      F96_J2 k again17 sba_11 other_12 indices_13p indices_13l indices_13c blocks_14p blocks_14l blocks_14c selfIndex_15 otherIndex_16)))))
theorem F96_L1_rule {k : Value → W} (I : Option Addr → Option Addr → Option Addr → Nat → Nat → Option Addr → Nat → Nat → Int → Int → W) (μ : Option Addr → Option Addr → Option Addr → Nat → Nat → Option Addr → Nat → Nat → Int → Int → World → Nat)
  (hr : ∀ (sba_11 : Option Addr) (other_12 : Option Addr) (indices_13p : Option Addr) (indices_13l : Nat) (indices_13c : Nat) (blocks_14p : Option Addr) (blocks_14l : Nat) (blocks_14c : Nat) (selfIndex_15 : Int) (otherIndex_16 : Int) (w : World), I sba_11 other_12 indices_13p indices_13l indices_13c blocks_14p blocks_14l blocks_14c selfIndex_15 otherIndex_16 w → F96_L1 k (fun sba_11' other_12' indices_13p' indices_13l' indices_13c' blocks_14p' blocks_14l' blocks_14c' selfIndex_15' otherIndex_16' w' => I sba_11' other_12' indices_13p' indices_13l' indices_13c' blocks_14p' blocks_14l' blocks_14c' selfIndex_15' otherIndex_16' w' ∧ μ sba_11' other_12' indices_13p' indices_13l' indices_13c' blocks_14p' blocks_14l' blocks_14c' selfIndex_15' otherIndex_16' w' < μ sba_11 other_12 indices_13p indices_13l indices_13c blocks_14p blocks_14l blocks_14c selfIndex_15 otherIndex_16 w) sba_11 other_12 indices_13p indices_13l indices_13c blocks_14p blocks_14l blocks_14c selfIndex_15 otherIndex_16 w)
  {w : World} {sba_11 : Option Addr} {other_12 : Option Addr} {indices_13p : Option Addr} {indices_13l : Nat} {indices_13c : Nat} {blocks_14p : Option Addr} {blocks_14l : Nat} {blocks_14c : Nat} {selfIndex_15 : Int} {otherIndex_16 : Int} (h : I sba_11 other_12 indices_13p indices_13l indices_13c blocks_14p blocks_14l blocks_14c selfIndex_15 otherIndex_16 w) : Loop [.ptr, .ptr, .slice, .slice, (.int .i64), (.int .i64)] (F96_L1 k) sba_11 other_12 indices_13p indices_13l indices_13c blocks_14p blocks_14l blocks_14c selfIndex_15 otherIndex_16 w :=
  Loop_intro (ts := [.ptr, .ptr, .slice, .slice, (.int .i64), (.int .i64)]) (s := (sba_11, other_12, (indices_13p, indices_13l, indices_13c), (blocks_14p, blocks_14l, blocks_14c), selfIndex_15, otherIndex_16, ())) (fun s w => I s.1 s.2.1 s.2.2.1.1 s.2.2.1.2.1 s.2.2.1.2.2 s.2.2.2.1.1 s.2.2.2.1.2.1 s.2.2.2.1.2.2 s.2.2.2.2.1 s.2.2.2.2.2.1 w) (fun s w => μ s.1 s.2.1 s.2.2.1.1 s.2.2.1.2.1 s.2.2.1.2.2 s.2.2.2.1.1 s.2.2.2.1.2.1 s.2.2.2.1.2.2 s.2.2.2.2.1 s.2.2.2.2.2.1 w) h (fun s w h => hr s.1 s.2.1 s.2.2.1.1 s.2.2.1.2.1 s.2.2.1.2.2 s.2.2.2.1.1 s.2.2.2.1.2.1 s.2.2.2.1.2.2 s.2.2.2.2.1 s.2.2.2.2.2.1 w h)
def F96 (k : Value → W) (sba_1 : Option Addr) (other_2 : Option Addr) : W :=
 Drw <|
 NN sba_1 fun a3 =>
 LoadT .slice (a3.add 1) fun s4p s4l s4c =>
 NN other_2 fun a5 =>
 LoadT .slice (a5.add 1) fun s6p s6l s6c =>
 RawT Go.Proofs.Try.prog (Instr.buildSlice 138 2 [(0, .int .i64 ((s4l : Nat) : Int)), (1, .int .i64 ((s6l : Nat) : Int))].toArray) (.s (.one .slice)) fun s7p s7l s7c =>
 Chk1 (a5.add 1) (.slice s6p s6l s6c) <|
 Chk1 (a3.add 1) (.slice s4p s4l s4c) <|
 CallT Go.Proofs.Try.prog 107 [.slice s7p s7l s7c] (.s (.one (.int .i64))) fun x8 =>
 Chk1 (a5.add 1) (.slice s6p s6l s6c) <|
 Chk1 (a3.add 1) (.slice s4p s4l s4c) <|
 RawT Go.Proofs.Try.prog (Instr.makeSlice 83 (.int .i64 0) (.int .i64 x8)) (.s (.one .slice)) fun s9p s9l s9c =>
 RawT Go.Proofs.Try.prog (Instr.makeSlice 82 (.int .i64 0) (.int .i64 x8)) (.s (.one .slice)) fun s10p s10l s10c =>
 Loop [.ptr, .ptr, .slice, .slice, (.int .i64), (.int .i64)] (F96_L1 k) sba_1 other_2 s9p s9l s9c s10p s10l s10c 0 0
theorem F96_eq (k : Value → W) (sba_1 : Option Addr) (other_2 : Option Addr) : compF Go.Proofs.Try.prog Go.Proofs.Try.f96 [(7, [(0, .ptr), (1, .ptr), (6, .slice), (7, .slice), (8, (.int .i64)), (9, (.int .i64))])] (Go.Proofs.Try.f96.body.getD .skip) [.pointer sba_1, .pointer other_2] k = F96 k sba_1 other_2 := by kernel_rfl
theorem F96_calls {sba_1 : Option Addr} {other_2 : Option Addr} {w : World} {R : Ending → World → Prop} (h : F96 (fun v w => R (.returned v) w) sba_1 other_2 w) : Calls Go.Proofs.Try.prog 96 #[.pointer sba_1, .pointer other_2] w R :=
  calls_of_compF noNum follows [(7, [(0, .ptr), (1, .ptr), (6, .slice), (7, .slice), (8, (.int .i64)), (9, (.int .i64))])] (f := 96) (fn := Go.Proofs.Try.f96) (body := Go.Proofs.Try.f96.body.getD .skip) (args := [.pointer sba_1, .pointer other_2]) rfl rfl (Nat.le_of_ble_eq_true rfl) ((congrFun (F96_eq _ sba_1 other_2) w).mpr h)
theorem F96_call {sba_1 : Option Addr} {other_2 : Option Addr} {w : World} {g : Fn W (RTy.leaves (.s (.one .any)))} (h : F96 (fun v => Back (.s (.one .any)) g (.returned v)) sba_1 other_2 w) : CallT Go.Proofs.Try.prog 96 [.pointer sba_1, .pointer other_2] (.s (.one .any)) g w := F96_calls h

/-! ## bitarray.nandSparseWithSparseBitArray -/
def F102_J1 (k : Value → W) (again13 : Option Addr → Option Addr → Option Addr → Nat → Nat → Option Addr → Nat → Nat → Int → Int → W) (sba_61 : Option Addr) (other_62 : Option Addr) (indices_63p : Option Addr) (indices_63l : Nat) (indices_63c : Nat) (blocks_64p : Option Addr) (blocks_64l : Nat) (blocks_64c : Nat) (selfIndex_65 : Int) (otherIndex_66 : Int) : W :=
 Bind (addI .i64 otherIndex_66 1 : Int) fun otherIndex_67 =>
 again13 sba_61 other_62 indices_63p indices_63l indices_63c blocks_64p blocks_64l blocks_64c (addI .i64 selfIndex_65 1) otherIndex_67
def F102_L1 (k : Value → W) (again13 : Option Addr → Option Addr → Option Addr → Nat → Nat → Option Addr → Nat → Nat → Int → Int → W) (sba_7 : Option Addr) (other_8 : Option Addr) (indices_9p : Option Addr) (indices_9l : Nat) (indices_9c : Nat) (blocks_10p : Option Addr) (blocks_10l : Nat) (blocks_10c : Nat) (selfIndex_11 : Int) (otherIndex_12 : Int) : W :=
 NN sba_7 fun a14 =>
 LoadT .slice (a14.add 1) fun s15p s15l s15c =>
 BIf (selfIndex_11 == ((s15l : Nat) : Int)) (
  New [.slice blocks_10p blocks_10l blocks_10c, .slice indices_9p indices_9l indices_9c] 85 fun n16 =>
  k (.iface 73 (.pointer (some ⟨n16, 0, none⟩)))) (
  NN other_8 fun a17 =>
  LoadT .slice (a17.add 1) fun s18p s18l s18c =>
  BIf (otherIndex_12 == ((s18l : Nat) : Int)) (
   NN sba_7 fun a19 =>
   LoadT .slice (a19.add 1) fun s20p s20l s20c =>
   NN s20p fun a21 =>
   Req (0 ≤ selfIndex_11 ∧ selfIndex_11 < ((s20l : Nat) : Int)) <|
   LoadT (.int .u64) (a21.add selfIndex_11.toNat) fun x22 =>
   RawT Go.Proofs.Try.prog (Instr.buildSlice 83 1 [(0, .int .u64 x22)].toArray) (.s (.one .slice)) fun s23p s23l s23c =>
   NextT Go.Proofs.Try.prog (builtin .append #[83, 83] 83 [false, false].toArray [.slice indices_9p indices_9l indices_9c, .slice s23p s23l s23c].toArray) (.s (.one .slice)) fun s24p s24l s24c =>
   NN sba_7 fun a25 =>
   LoadT .slice a25 fun s26p s26l s26c =>
   NN s26p fun a27 =>
   Req (0 ≤ selfIndex_11 ∧ selfIndex_11 < ((s26l : Nat) : Int)) <|
   LoadT (.int .u64) (a27.add selfIndex_11.toNat) fun x28 =>
   RawT Go.Proofs.Try.prog (Instr.buildSlice 82 1 [(0, .int .u64 x28)].toArray) (.s (.one .slice)) fun s29p s29l s29c =>
   NextT Go.Proofs.Try.prog (builtin .append #[82, 82] 82 [false, false].toArray [.slice blocks_10p blocks_10l blocks_10c, .slice s29p s29l s29c].toArray) (.s (.one .slice)) fun s30p s30l s30c =>
   again13 sba_7 other_8 s24p s24l s24c s30p s30l s30c (addI .i64 selfIndex_11 1) otherIndex_12) (
   NN sba_7 fun a31 =>
   LoadT .slice (a31.add 1) fun s32p s32l s32c =>
   NN s32p fun a33 =>
   Req (0 ≤ selfIndex_11 ∧ selfIndex_11 < ((s32l : Nat) : Int)) <|
   LoadT (.int .u64) (a33.add selfIndex_11.toNat) fun x34 =>
   NN other_8 fun a35 =>
   LoadT .slice (a35.add 1) fun s36p s36l s36c =>
   NN s36p fun a37 =>
   Req (0 ≤ otherIndex_12 ∧ otherIndex_12 < ((s36l : Nat) : Int)) <|
   LoadT (.int .u64) (a37.add otherIndex_12.toNat) fun x38 =>
   BIf (decide (x38 < x34)) (
    Bind (addI .i64 otherIndex_12 1 : Int) fun otherIndex_39 =>
    again13 sba_7 other_8 indices_9p indices_9l indices_9c blocks_10p blocks_10l blocks_10c selfIndex_11 otherIndex_39) (
    BIf (decide (x38 > x34)) (
     RawT Go.Proofs.Try.prog (Instr.buildSlice 83 1 [(0, .int .u64 x34)].toArray) (.s (.one .slice)) fun s40p s40l s40c =>
     NextT Go.Proofs.Try.prog (builtin .append #[83, 83] 83 [false, false].toArray [.slice indices_9p indices_9l indices_9c, .slice s40p s40l s40c].toArray) (.s (.one .slice)) fun s41p s41l s41c =>
     NN sba_7 fun a42 =>
     LoadT .slice a42 fun s43p s43l s43c =>
     NN s43p fun a44 =>
     Req (0 ≤ selfIndex_11 ∧ selfIndex_11 < ((s43l : Nat) : Int)) <|
     LoadT (.int .u64) (a44.add selfIndex_11.toNat) fun x45 =>
     RawT Go.Proofs.Try.prog (Instr.buildSlice 82 1 [(0, .int .u64 x45)].toArray) (.s (.one .slice)) fun s46p s46l s46c =>
     NextT Go.Proofs.Try.prog (builtin .append #[82, 82] 82 [false, false].toArray [.slice blocks_10p blocks_10l blocks_10c, .slice s46p s46l s46c].toArray) (.s (.one .slice)) fun s47p s47l s47c =>
     again13 sba_7 other_8 s41p s41l s41c s47p s47l s47c (addI .i64 selfIndex_11 1) otherIndex_12) (
     Drw <|
     NN sba_7 fun a48 =>
     LoadT .slice a48 fun s49p s49l s49c =>
     NN s49p fun a50 =>
     Req (0 ≤ selfIndex_11 ∧ selfIndex_11 < ((s49l : Nat) : Int)) <|
     LoadT (.int .u64) (a50.add selfIndex_11.toNat) fun x51 =>
     NN other_8 fun a52 =>
     LoadT .slice a52 fun s53p s53l s53c =>
     NN s53p fun a54 =>
     Req (0 ≤ otherIndex_12 ∧ otherIndex_12 < ((s53l : Nat) : Int)) <|
     LoadT (.int .u64) (a54.add otherIndex_12.toNat) fun x55 =>
     CallT Go.Proofs.Try.prog 77 [.int .u64 x51, .int .u64 x55] (.s (.one (.int .u64))) fun x56 =>
     Chk1 a52 (.slice s53p s53l s53c) <|
     Chk1 a48 (.slice s49p s49l s49c) <|
     BIf (decide (x56 > 0)) (
      RawT Go.Proofs.Try.prog (Instr.buildSlice 83 1 [(0, .int .u64 x34)].toArray) (.s (.one .slice)) fun s57p s57l s57c =>
      NextT Go.Proofs.Try.prog (builtin .append #[83, 83] 83 [false, false].toArray [.slice indices_9p indices_9l indices_9c, .slice s57p s57l s57c].toArray) (.s (.one .slice)) fun s58p s58l s58c =>
      RawT Go.Proofs.Try.prog (Instr.buildSlice 82 1 [(0, .int .u64 x56)].toArray) (.s (.one .slice)) fun s59p s59l s59c =>
      NextT Go.Proofs.Try.prog (builtin .append #[82, 82] 82 [false, false].toArray [.slice blocks_10p blocks_10l blocks_10c, .slice s59p s59l s59c].toArray) (.s (.one .slice)) fun s60p s60l s60c =>
      F102_J1 k again13 sba_7 other_8 s58p s58l s58c s60p s60l s60c selfIndex_11 otherIndex_12) (
      F102_J1 k again13 sba_7 other_8 indices_9p indices_9l indices_9c blocks_10p blocks_10l blocks_10c selfIndex_11 otherIndex_12)))))
theorem F102_L1_rule {k : Value → W} (I : Option Addr → Option Addr → Option Addr → Nat → Nat → Option Addr → Nat → Nat → Int → Int → W) (μ : Option Addr → Option Addr → Option Addr → Nat → Nat → Option Addr → Nat → Nat → Int → Int → World → Nat)
  (hr : ∀ (sba_7 : Option Addr) (other_8 : Option Addr) (indices_9p : Option Addr) (indices_9l : Nat) (indices_9c : Nat) (blocks_10p : Option Addr) (blocks_10l : Nat) (blocks_10c : Nat) (selfIndex_11 : Int) (otherIndex_12 : Int) (w : World), I sba_7 other_8 indices_9p indices_9l indices_9c blocks_10p blocks_10l blocks_10c selfIndex_11 otherIndex_12 w → F102_L1 k (fun sba_7' other_8' indices_9p' indices_9l' indices_9c' blocks_10p' blocks_10l' blocks_10c' selfIndex_11' otherIndex_12' w' => I sba_7' other_8' indices_9p' indices_9l' indices_9c' blocks_10p' blocks_10l' blocks_10c' selfIndex_11' otherIndex_12' w' ∧ μ sba_7' other_8' indices_9p' indices_9l' indices_9c' blocks_10p' blocks_10l' blocks_10c' selfIndex_11' otherIndex_12' w' < μ sba_7 other_8 indices_9p indices_9l indices_9c blocks_10p blocks_10l blocks_10c selfIndex_11 otherIndex_12 w) sba_7 other_8 indices_9p indices_9l indices_9c blocks_10p blocks_10l blocks_10c selfIndex_11 otherIndex_12 w)
  {w : World} {sba_7 : Option Addr} {other_8 : Option Addr} {indices_9p : Option Addr} {indices_9l : Nat} {indices_9c : Nat} {blocks_10p : Option Addr} {blocks_10l : Nat} {blocks_10c : Nat} {selfIndex_11 : Int} {otherIndex_12 : Int} (h : I sba_7 other_8 indices_9p indices_9l indices_9c blocks_10p blocks_10l blocks_10c selfIndex_11 otherIndex_12 w) : Loop [.ptr, .ptr, .slice, .slice, (.int .i64), (.int .i64)] (F102_L1 k) sba_7 other_8 indices_9p indices_9l indices_9c blocks_10p blocks_10l blocks_10c selfIndex_11 otherIndex_12 w :=
  Loop_intro (ts := [.ptr, .ptr, .slice, .slice, (.int .i64), (.int .i64)]) (s := (sba_7, other_8, (indices_9p, indices_9l, indices_9c), (blocks_10p, blocks_10l, blocks_10c), selfIndex_11, otherIndex_12, ())) (fun s w => I s.1 s.2.1 s.2.2.1.1 s.2.2.1.2.1 s.2.2.1.2.2 s.2.2.2.1.1 s.2.2.2.1.2.1 s.2.2.2.1.2.2 s.2.2.2.2.1 s.2.2.2.2.2.1 w) (fun s w => μ s.1 s.2.1 s.2.2.1.1 s.2.2.1.2.1 s.2.2.1.2.2 s.2.2.2.1.1 s.2.2.2.1.2.1 s.2.2.2.1.2.2 s.2.2.2.2.1 s.2.2.2.2.2.1 w) h (fun s w h => hr s.1 s.2.1 s.2.2.1.1 s.2.2.1.2.1 s.2.2.1.2.2 s.2.2.2.1.1 s.2.2.2.1.2.1 s.2.2.2.1.2.2 s.2.2.2.2.1 s.2.2.2.2.2.1 w h)
def F102 (k : Value → W) (sba_1 : Option Addr) (other_2 : Option Addr) : W :=
 NN sba_1 fun a3 =>
 LoadT .slice (a3.add 1) fun s4p s4l s4c =>
 RawT Go.Proofs.Try.prog (Instr.makeSlice 83 (.int .i64 0) (.int .i64 ((s4l : Nat) : Int))) (.s (.one .slice)) fun s5p s5l s5c =>
 RawT Go.Proofs.Try.prog (Instr.makeSlice 82 (.int .i64 0) (.int .i64 ((s4l : Nat) : Int))) (.s (.one .slice)) fun s6p s6l s6c =>
 Loop [.ptr, .ptr, .slice, .slice, (.int .i64), (.int .i64)] (F102_L1 k) sba_1 other_2 s5p s5l s5c s6p s6l s6c 0 0
theorem F102_eq (k : Value → W) (sba_1 : Option Addr) (other_2 : Option Addr) : compF Go.Proofs.Try.prog Go.Proofs.Try.f102 [(7, [(0, .ptr), (1, .ptr), (6, .slice), (7, .slice), (8, (.int .i64)), (9, (.int .i64))])] (Go.Proofs.Try.f102.body.getD .skip) [.pointer sba_1, .pointer other_2] k = F102 k sba_1 other_2 := by kernel_rfl
theorem F102_calls {sba_1 : Option Addr} {other_2 : Option Addr} {w : World} {R : Ending → World → Prop} (h : F102 (fun v w => R (.returned v) w) sba_1 other_2 w) : Calls Go.Proofs.Try.prog 102 #[.pointer sba_1, .pointer other_2] w R :=
  calls_of_compF noNum follows [(7, [(0, .ptr), (1, .ptr), (6, .slice), (7, .slice), (8, (.int .i64)), (9, (.int .i64))])] (f := 102) (fn := Go.Proofs.Try.f102) (body := Go.Proofs.Try.f102.body.getD .skip) (args := [.pointer sba_1, .pointer other_2]) rfl rfl (Nat.le_of_ble_eq_true rfl) ((congrFun (F102_eq _ sba_1 other_2) w).mpr h)
theorem F102_call {sba_1 : Option Addr} {other_2 : Option Addr} {w : World} {g : Fn W (RTy.leaves (.s (.one .any)))} (h : F102 (fun v => Back (.s (.one .any)) g (.returned v)) sba_1 other_2 w) : CallT Go.Proofs.Try.prog 102 [.pointer sba_1, .pointer other_2] (.s (.one .any)) g w := F102_calls h

/-! ## bitarray.sparseBitArray).Count -/
def F85_L1 (k : Value → W) (again8 : Int → Option Addr → Nat → Nat → Int → Int → W) (count_4 : Int) (s5p : Option Addr) (s5l : Nat) (s5c : Nat) (x6 : Int) (x7 : Int) : W :=
 BIf (decide (x7 < x6)) (
  NN s5p fun a9 =>
  Req (0 ≤ x7 ∧ x7 < ((s5l : Nat) : Int)) <|
  LoadT (.int .u64) (a9.add x7.toNat) fun x10 =>
  CallT Go.Proofs.Try.prog 58 [.int .u64 x10] (.s (.one (.int .i64))) fun x11 =>
  again8 (addI .i64 count_4 x11) s5p s5l s5c x6 (addI .i64 x7 1)) (
  k (.int .i64 count_4))
theorem F85_L1_rule {k : Value → W} (I : Int → Option Addr → Nat → Nat → Int → Int → W) (μ : Int → Option Addr → Nat → Nat → Int → Int → World → Nat)
  (hr : ∀ (count_4 : Int) (s5p : Option Addr) (s5l : Nat) (s5c : Nat) (x6 : Int) (x7 : Int) (w : World), I count_4 s5p s5l s5c x6 x7 w → F85_L1 k (fun count_4' s5p' s5l' s5c' x6' x7' w' => I count_4' s5p' s5l' s5c' x6' x7' w' ∧ μ count_4' s5p' s5l' s5c' x6' x7' w' < μ count_4 s5p s5l s5c x6 x7 w) count_4 s5p s5l s5c x6 x7 w)
  {w : World} {count_4 : Int} {s5p : Option Addr} {s5l : Nat} {s5c : Nat} {x6 : Int} {x7 : Int} (h : I count_4 s5p s5l s5c x6 x7 w) : Loop [(.int .i64), .slice, (.int .i64), (.int .i64)] (F85_L1 k) count_4 s5p s5l s5c x6 x7 w :=
  Loop_intro (ts := [(.int .i64), .slice, (.int .i64), (.int .i64)]) (s := (count_4, (s5p, s5l, s5c), x6, x7, ())) (fun s w => I s.1 s.2.1.1 s.2.1.2.1 s.2.1.2.2 s.2.2.1 s.2.2.2.1 w) (fun s w => μ s.1 s.2.1.1 s.2.1.2.1 s.2.1.2.2 s.2.2.1 s.2.2.2.1 w) h (fun s w h => hr s.1 s.2.1.1 s.2.1.2.1 s.2.1.2.2 s.2.2.1 s.2.2.2.1 w h)
def F85 (k : Value → W) (sba_1 : Option Addr) : W :=
 NN sba_1 fun a2 =>
 LoadT .slice a2 fun s3p s3l s3c =>
 Loop [(.int .i64), .slice, (.int .i64), (.int .i64)] (F85_L1 k) 0 s3p s3l s3c ((s3l : Nat) : Int) 0
theorem F85_eq (k : Value → W) (sba_1 : Option Addr) : compF Go.Proofs.Try.prog Go.Proofs.Try.f85 [(3, [(3, (.int .i64)), (9, .slice), (10, (.int .i64)), (11, (.int .i64))])] (Go.Proofs.Try.f85.body.getD .skip) [.pointer sba_1] k = F85 k sba_1 := by kernel_rfl
theorem F85_calls {sba_1 : Option Addr} {w : World} {R : Ending → World → Prop} (h : F85 (fun v w => R (.returned v) w) sba_1 w) : Calls Go.Proofs.Try.prog 85 #[.pointer sba_1] w R :=
  calls_of_compF noNum follows [(3, [(3, (.int .i64)), (9, .slice), (10, (.int .i64)), (11, (.int .i64))])] (f := 85) (fn := Go.Proofs.Try.f85) (body := Go.Proofs.Try.f85.body.getD .skip) (args := [.pointer sba_1]) rfl rfl (Nat.le_of_ble_eq_true rfl) ((congrFun (F85_eq _ sba_1) w).mpr h)
theorem F85_call {sba_1 : Option Addr} {w : World} {g : Fn W (RTy.leaves (.s (.one (.int .i64))))} (h : F85 (fun v => Back (.s (.one (.int .i64))) g (.returned v)) sba_1 w) : CallT Go.Proofs.Try.prog 85 [.pointer sba_1] (.s (.one (.int .i64))) g w := F85_calls h

/-! ## bitarray.sparseBitArray).ToNums -/
def F95_L1 (k : Value → W) (again16 : Option Addr → Addr → Option Addr → Nat → Nat → Int → Int → W) (sba_11 : Option Addr) (nums_12 : Addr) (s13p : Option Addr) (s13l : Nat) (s13c : Nat) (x14 : Int) (x15 : Int) : W :=
 BIf (decide (x15 < x14)) (
  NN s13p fun a17 =>
  Req (0 ≤ x15 ∧ x15 < ((s13l : Nat) : Int)) <|
  LoadT (.int .u64) (a17.add x15.toNat) fun x18 =>
  NN sba_11 fun a19 =>
  LoadT .slice a19 fun s20p s20l s20c =>
  NN s20p fun a21 =>
  Req (0 ≤ x15 ∧ x15 < ((s20l : Nat) : Int)) <|
  LoadT (.int .u64) (a21.add x15.toNat) fun x22 =>
  CallT Go.Proofs.Try.prog 68 [.int .u64 x22, .int .u64 (mulI .u64 x18 64), .pointer (some nums_12)] (.tup []) <|
  again16 sba_11 nums_12 s13p s13l s13c x14 (addI .i64 x15 1)) (
  LoadT .slice nums_12 fun s23p s23l s23c =>
  k (.slice s23p s23l s23c))
theorem F95_L1_rule {k : Value → W} (I : Option Addr → Addr → Option Addr → Nat → Nat → Int → Int → W) (μ : Option Addr → Addr → Option Addr → Nat → Nat → Int → Int → World → Nat)
  (hr : ∀ (sba_11 : Option Addr) (nums_12 : Addr) (s13p : Option Addr) (s13l : Nat) (s13c : Nat) (x14 : Int) (x15 : Int) (w : World), I sba_11 nums_12 s13p s13l s13c x14 x15 w → F95_L1 k (fun sba_11' nums_12' s13p' s13l' s13c' x14' x15' w' => I sba_11' nums_12' s13p' s13l' s13c' x14' x15' w' ∧ μ sba_11' nums_12' s13p' s13l' s13c' x14' x15' w' < μ sba_11 nums_12 s13p s13l s13c x14 x15 w) sba_11 nums_12 s13p s13l s13c x14 x15 w)
  {w : World} {sba_11 : Option Addr} {nums_12 : Addr} {s13p : Option Addr} {s13l : Nat} {s13c : Nat} {x14 : Int} {x15 : Int} (h : I sba_11 nums_12 s13p s13l s13c x14 x15 w) : Loop [.ptr, .addr, .slice, (.int .i64), (.int .i64)] (F95_L1 k) sba_11 nums_12 s13p s13l s13c x14 x15 w :=
  Loop_intro (ts := [.ptr, .addr, .slice, (.int .i64), (.int .i64)]) (s := (sba_11, nums_12, (s13p, s13l, s13c), x14, x15, ())) (fun s w => I s.1 s.2.1 s.2.2.1.1 s.2.2.1.2.1 s.2.2.1.2.2 s.2.2.2.1 s.2.2.2.2.1 w) (fun s w => μ s.1 s.2.1 s.2.2.1.1 s.2.2.1.2.1 s.2.2.1.2.2 s.2.2.2.1 s.2.2.2.2.1 w) h (fun s w h => hr s.1 s.2.1 s.2.2.1.1 s.2.2.1.2.1 s.2.2.1.2.2 s.2.2.2.1 s.2.2.2.2.1 w h)
def F95 (k : Value → W) (sba_1 : Option Addr) : W :=
 NN sba_1 fun a2 =>
 LoadT .slice (a2.add 1) fun s3p s3l s3c =>
 BIf (((s3l : Nat) : Int) == 0) (
  k (.slice none 0 0)) (
  NN sba_1 fun a4 =>
  LoadT .slice (a4.add 1) fun s5p s5l s5c =>
  Bind (mulI .u64 (IntKind.wrap .u64 ((s5l : Nat) : Int)) 64 : Int) fun diff_6 =>
  Req (4 ≠ (0 : Int)) <|
  RawT Go.Proofs.Try.prog (Instr.makeSlice 22 (.int .i64 0) (.int .u64 (quoI .u64 diff_6 4))) (.s (.one .slice)) fun s7p s7l s7c =>
  New [.slice none 0 0] 22 fun n8 =>
  Store1 ⟨n8, 0, none⟩ (.slice s7p s7l s7c) <|
  NN sba_1 fun a9 =>
  LoadT .slice (a9.add 1) fun s10p s10l s10c =>
  Loop [.ptr, .addr, .slice, (.int .i64), (.int .i64)] (F95_L1 k) sba_1 ⟨n8, 0, none⟩ s10p s10l s10c ((s10l : Nat) : Int) 0)
theorem F95_eq (k : Value → W) (sba_1 : Option Addr) : compF Go.Proofs.Try.prog Go.Proofs.Try.f95 [(6, [(0, .ptr), (4, .addr), (26, .slice), (27, (.int .i64)), (28, (.int .i64))])] (Go.Proofs.Try.f95.body.getD .skip) [.pointer sba_1] k = F95 k sba_1 := by kernel_rfl
theorem F95_calls {sba_1 : Option Addr} {w : World} {R : Ending → World → Prop} (h : F95 (fun v w => R (.returned v) w) sba_1 w) : Calls Go.Proofs.Try.prog 95 #[.pointer sba_1] w R :=
  calls_of_compF noNum follows [(6, [(0, .ptr), (4, .addr), (26, .slice), (27, (.int .i64)), (28, (.int .i64))])] (f := 95) (fn := Go.Proofs.Try.f95) (body := Go.Proofs.Try.f95.body.getD .skip) (args := [.pointer sba_1]) rfl rfl (Nat.le_of_ble_eq_true rfl) ((congrFun (F95_eq _ sba_1) w).mpr h)
theorem F95_call {sba_1 : Option Addr} {w : World} {g : Fn W (RTy.leaves (.s (.one .slice)))} (h : F95 (fun v => Back (.s (.one .slice)) g (.returned v)) sba_1 w) : CallT Go.Proofs.Try.prog 95 [.pointer sba_1] (.s (.one .slice)) g w := F95_calls h

/-! ## impl.arrays).made -/
def F14 (k : Value → W) (a_1 : Option Addr) (x_2 : Value) : W :=
 NN a_1 fun a3 =>
 LoadT .slice a3 fun s4p s4l s4c =>
 RawT Go.Proofs.Try.prog (Instr.buildSlice 42 1 [(0, x_2)].toArray) (.s (.one .slice)) fun s5p s5l s5c =>
 NextT Go.Proofs.Try.prog (builtin .append #[42, 42] 42 [false, false].toArray [.slice s4p s4l s4c, .slice s5p s5l s5c].toArray) (.s (.one .slice)) fun s6p s6l s6c =>
 NN a_1 fun a7 =>
 Store1 a7 (.slice s6p s6l s6c) <|
 k (.tuple #[])
theorem F14_eq (k : Value → W) (a_1 : Option Addr) (x_2 : Value) : compF Go.Proofs.Try.prog Go.Proofs.Try.f14 [] (Go.Proofs.Try.f14.body.getD .skip) [.pointer a_1, x_2] k = F14 k a_1 x_2 := by kernel_rfl
theorem F14_calls {a_1 : Option Addr} {x_2 : Value} {w : World} {R : Ending → World → Prop} (h : F14 (fun v w => R (.returned v) w) a_1 x_2 w) : Calls Go.Proofs.Try.prog 14 #[.pointer a_1, x_2] w R :=
  calls_of_compF noNum follows [] (f := 14) (fn := Go.Proofs.Try.f14) (body := Go.Proofs.Try.f14.body.getD .skip) (args := [.pointer a_1, x_2]) rfl rfl (Nat.le_of_ble_eq_true rfl) ((congrFun (F14_eq _ a_1 x_2) w).mpr h)
theorem F14_call {a_1 : Option Addr} {x_2 : Value} {w : World} {g : Fn W (RTy.leaves (.tup []))} (h : F14 (fun v => Back (.tup []) g (.returned v)) a_1 x_2 w) : CallT Go.Proofs.Try.prog 14 [.pointer a_1, x_2] (.tup []) g w := F14_calls h

/-! ## impl.arrays).at -/
def F17 (k : Value → W) (a_1 : Option Addr) (n_2 : Int) : W :=
 BIf (decide (n_2 < 0)) (
  k .nilIface) (
  NN a_1 fun a3 =>
  LoadT .slice a3 fun s4p s4l s4c =>
  BIf (decide (n_2 ≥ ((s4l : Nat) : Int))) (
   k .nilIface) (
   NN a_1 fun a5 =>
   LoadT .slice a5 fun s6p s6l s6c =>
   NN s6p fun a7 =>
   Req (0 ≤ n_2 ∧ n_2 < ((s6l : Nat) : Int)) <|
   LoadT .any (a7.add n_2.toNat) fun v8 =>
   k v8))
theorem F17_eq (k : Value → W) (a_1 : Option Addr) (n_2 : Int) : compF Go.Proofs.Try.prog Go.Proofs.Try.f17 [] (Go.Proofs.Try.f17.body.getD .skip) [.pointer a_1, .int .i64 n_2] k = F17 k a_1 n_2 := by kernel_rfl
theorem F17_calls {a_1 : Option Addr} {n_2 : Int} {w : World} {R : Ending → World → Prop} (h : F17 (fun v w => R (.returned v) w) a_1 n_2 w) : Calls Go.Proofs.Try.prog 17 #[.pointer a_1, .int .i64 n_2] w R :=
  calls_of_compF noNum follows [] (f := 17) (fn := Go.Proofs.Try.f17) (body := Go.Proofs.Try.f17.body.getD .skip) (args := [.pointer a_1, .int .i64 n_2]) rfl rfl (Nat.le_of_ble_eq_true rfl) ((congrFun (F17_eq _ a_1 n_2) w).mpr h)
theorem F17_call {a_1 : Option Addr} {n_2 : Int} {w : World} {g : Fn W (RTy.leaves (.s (.one .any)))} (h : F17 (fun v => Back (.s (.one .any)) g (.returned v)) a_1 n_2 w) : CallT Go.Proofs.Try.prog 17 [.pointer a_1, .int .i64 n_2] (.s (.one .any)) g w := F17_calls h

/-! ## bitarray.newSparseBitArray -/
def F20 (k : Value → W) : W :=
 New [.slice none 0 0, .slice none 0 0] 85 fun n1 =>
 k (.pointer (some ⟨n1, 0, none⟩))
theorem F20_eq (k : Value → W) : compF Go.Proofs.Try.prog Go.Proofs.Try.f20 [] (Go.Proofs.Try.f20.body.getD .skip) [] k = F20 k  := by kernel_rfl
theorem F20_calls {w : World} {R : Ending → World → Prop} (h : F20 (fun v w => R (.returned v) w)  w) : Calls Go.Proofs.Try.prog 20 #[] w R :=
  calls_of_compF noNum follows [] (f := 20) (fn := Go.Proofs.Try.f20) (body := Go.Proofs.Try.f20.body.getD .skip) (args := []) rfl rfl (Nat.le_of_ble_eq_true rfl) ((congrFun (F20_eq _ ) w).mpr h)
theorem F20_call {w : World} {g : Fn W (RTy.leaves (.s (.one .ptr)))} (h : F20 (fun v => Back (.s (.one .ptr)) g (.returned v))  w) : CallT Go.Proofs.Try.prog 20 [] (.s (.one .ptr)) g w := F20_calls h

/-! ## bitarray.NewSparseBitArray -/
def F16 (k : Value → W) : W :=
 CallT Go.Proofs.Try.prog 20 [] (.s (.one .ptr)) fun p1 =>
 k (.iface 73 (.pointer p1))
theorem F16_eq (k : Value → W) : compF Go.Proofs.Try.prog Go.Proofs.Try.f16 [] (Go.Proofs.Try.f16.body.getD .skip) [] k = F16 k  := by kernel_rfl
theorem F16_calls {w : World} {R : Ending → World → Prop} (h : F16 (fun v w => R (.returned v) w)  w) : Calls Go.Proofs.Try.prog 16 #[] w R :=
  calls_of_compF noNum follows [] (f := 16) (fn := Go.Proofs.Try.f16) (body := Go.Proofs.Try.f16.body.getD .skip) (args := []) rfl rfl (Nat.le_of_ble_eq_true rfl) ((congrFun (F16_eq _ ) w).mpr h)
theorem F16_call {w : World} {g : Fn W (RTy.leaves (.s (.one .any)))} (h : F16 (fun v => Back (.s (.one .any)) g (.returned v))  w) : CallT Go.Proofs.Try.prog 16 [] (.s (.one .any)) g w := F16_calls h

/-! ## impl.arrays).two -/
def F18 (k : Value → W) (a_1 : Option Addr) (x2 : Int) (x3 : Int) (x4 : Int) (x5 : Int) (x6 : Int) (b7 : Bool) (x_8 : Value) (out_9 : Option Addr) : W :=
 New [.int .i64 x2, .int .i64 x3, .int .i64 x4, .int .u64 x5, .int .i64 x6, .bool b7] 31 fun n10 =>
 LoadT (.int .i64) ⟨n10, 2, none⟩ fun x11 =>
 CallT Go.Proofs.Try.prog 17 [.pointer a_1, .int .i64 x11] (.s (.one .any)) fun v12 =>
 IfaceNil v12 fun b13 =>
 BIf b13 (
  k (.tuple #[])) (
  LoadT (.int .i64) ⟨n10, 0, none⟩ fun x14 =>
  BIf (x14 == 7) (
   NextT Go.Proofs.Try.prog (callMethod x_8 "Equals" [v12].toArray) (.s (.one .bool)) fun b15 =>
   NN out_9 fun a16 =>
   Store1 a16 (.bool b15) <|
   k (.tuple #[])) (
   BIf (x14 == 8) (
    NextT Go.Proofs.Try.prog (callMethod x_8 "Intersects" [v12].toArray) (.s (.one .bool)) fun b17 =>
    NN out_9 fun a18 =>
    Store1 a18 (.bool b17) <|
    k (.tuple #[])) (
    BIf (x14 == 11) (
     NextT Go.Proofs.Try.prog (callMethod x_8 "Or" [v12].toArray) (.s (.one .any)) fun v19 =>
     CallT Go.Proofs.Try.prog 14 [.pointer a_1, v19] (.tup []) <|
     k (.tuple #[])) (
     BIf (x14 == 12) (
      NextT Go.Proofs.Try.prog (callMethod x_8 "And" [v12].toArray) (.s (.one .any)) fun v20 =>
      CallT Go.Proofs.Try.prog 14 [.pointer a_1, v20] (.tup []) <|
      k (.tuple #[])) (
      BIf (x14 == 13) (
       NextT Go.Proofs.Try.prog (callMethod x_8 "Nand" [v12].toArray) (.s (.one .any)) fun v21 =>
       CallT Go.Proofs.Try.prog 14 [.pointer a_1, v21] (.tup []) <|
       k (.tuple #[])) (
       k (.tuple #[])))))))
theorem F18_eq (k : Value → W) (a_1 : Option Addr) (x2 : Int) (x3 : Int) (x4 : Int) (x5 : Int) (x6 : Int) (b7 : Bool) (x_8 : Value) (out_9 : Option Addr) : compF Go.Proofs.Try.prog Go.Proofs.Try.f18 [] (Go.Proofs.Try.f18.body.getD .skip) [.pointer a_1, .agg #[.int .i64 x2, .int .i64 x3, .int .i64 x4, .int .u64 x5, .int .i64 x6, .bool b7], x_8, .pointer out_9] k = F18 k a_1 x2 x3 x4 x5 x6 b7 x_8 out_9 := by kernel_rfl
theorem F18_calls {a_1 : Option Addr} {x2 : Int} {x3 : Int} {x4 : Int} {x5 : Int} {x6 : Int} {b7 : Bool} {x_8 : Value} {out_9 : Option Addr} {w : World} {R : Ending → World → Prop} (h : F18 (fun v w => R (.returned v) w) a_1 x2 x3 x4 x5 x6 b7 x_8 out_9 w) : Calls Go.Proofs.Try.prog 18 #[.pointer a_1, .agg #[.int .i64 x2, .int .i64 x3, .int .i64 x4, .int .u64 x5, .int .i64 x6, .bool b7], x_8, .pointer out_9] w R :=
  calls_of_compF noNum follows [] (f := 18) (fn := Go.Proofs.Try.f18) (body := Go.Proofs.Try.f18.body.getD .skip) (args := [.pointer a_1, .agg #[.int .i64 x2, .int .i64 x3, .int .i64 x4, .int .u64 x5, .int .i64 x6, .bool b7], x_8, .pointer out_9]) rfl rfl (Nat.le_of_ble_eq_true rfl) ((congrFun (F18_eq _ a_1 x2 x3 x4 x5 x6 b7 x_8 out_9) w).mpr h)
theorem F18_call {a_1 : Option Addr} {x2 : Int} {x3 : Int} {x4 : Int} {x5 : Int} {x6 : Int} {b7 : Bool} {x_8 : Value} {out_9 : Option Addr} {w : World} {g : Fn W (RTy.leaves (.tup []))} (h : F18 (fun v => Back (.tup []) g (.returned v)) a_1 x2 x3 x4 x5 x6 b7 x_8 out_9 w) : CallT Go.Proofs.Try.prog 18 [.pointer a_1, .agg #[.int .i64 x2, .int .i64 x3, .int .i64 x4, .int .u64 x5, .int .i64 x6, .bool b7], x_8, .pointer out_9] (.tup []) g w := F18_calls h

end Go.Proofs.Ytooejhmelodiaaa.E
