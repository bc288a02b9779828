/-
  Printed by this session's own program eng.py out of Lean's print of the loaded functions: what each function's body asks, in the engine's words; each is checked against the program by the kernel.
-/
import Derived.Test.YtpjjnckgjohaeaaEng
import Derived.Test.YtpjjnckgjohaeaaProg
namespace Go.Proofs.Ytpjjnckgjohaeaa.E
open Go
set_option linter.unusedVariables false
set_option maxRecDepth 100000
theorem noNum : NoNum Go.Proofs.Try.prog := noNum_of (by kernel_rfl)
theorem follows : (Go.Proofs.Try.prog).follows .mixedOrders = true := by kernel_rfl

/-! ## laws.dxFew -/
def F7 (k : Value → W) (l_1p : Option Addr) (l_1l : Nat) (l_1c : Nat) : W :=
 BIf (decide (((l_1l : Nat) : Int) > 0)) (
  Bind (decide (((l_1l : Nat) : Int) ≤ 30)) fun y2 =>
  k (.bool y2)) (
  k (.bool false))
theorem F7_eq (k : Value → W) (l_1p : Option Addr) (l_1l : Nat) (l_1c : Nat) : compF Go.Proofs.Try.prog Go.Proofs.Try.f7 [] (Go.Proofs.Try.f7.body.getD .skip) [.slice l_1p l_1l l_1c] k = F7 k l_1p l_1l l_1c := by kernel_rfl
theorem F7_calls {l_1p : Option Addr} {l_1l : Nat} {l_1c : Nat} {w : World} {R : Ending → World → Prop} (h : F7 (fun v w => R (.returned v) w) l_1p l_1l l_1c w) : Calls Go.Proofs.Try.prog 7 #[.slice l_1p l_1l l_1c] w R :=
  calls_of_compF noNum follows [] (f := 7) (fn := Go.Proofs.Try.f7) (body := Go.Proofs.Try.f7.body.getD .skip) (args := [.slice l_1p l_1l l_1c]) rfl rfl (Nat.le_of_ble_eq_true rfl) ((congrFun (F7_eq _ l_1p l_1l l_1c) w).mpr h)
theorem F7_call {l_1p : Option Addr} {l_1l : Nat} {l_1c : Nat} {w : World} {g : Fn W (RTy.leaves (.s (.one .bool)))} (h : F7 (fun v => Back (.s (.one .bool)) g (.returned v)) l_1p l_1l l_1c w) : CallT Go.Proofs.Try.prog 7 [.slice l_1p l_1l l_1c] (.s (.one .bool)) g w := F7_calls h

/-! ## impl.ints -/
def F22 (k : Value → W) (l_1p : Option Addr) (l_1l : Nat) (l_1c : Nat) : W :=
 NextT Go.Proofs.Try.prog (builtin .append #[45, 25] 45 [true, false].toArray [.slice none 0 0, .slice l_1p l_1l l_1c].toArray) (.s (.one .slice)) fun s2p s2l s2c =>
 k (.slice s2p s2l s2c)
theorem F22_eq (k : Value → W) (l_1p : Option Addr) (l_1l : Nat) (l_1c : Nat) : compF Go.Proofs.Try.prog Go.Proofs.Try.f22 [] (Go.Proofs.Try.f22.body.getD .skip) [.slice l_1p l_1l l_1c] k = F22 k l_1p l_1l l_1c := by kernel_rfl
theorem F22_calls {l_1p : Option Addr} {l_1l : Nat} {l_1c : Nat} {w : World} {R : Ending → World → Prop} (h : F22 (fun v w => R (.returned v) w) l_1p l_1l l_1c w) : Calls Go.Proofs.Try.prog 22 #[.slice l_1p l_1l l_1c] w R :=
  calls_of_compF noNum follows [] (f := 22) (fn := Go.Proofs.Try.f22) (body := Go.Proofs.Try.f22.body.getD .skip) (args := [.slice l_1p l_1l l_1c]) rfl rfl (Nat.le_of_ble_eq_true rfl) ((congrFun (F22_eq _ l_1p l_1l l_1c) w).mpr h)
theorem F22_call {l_1p : Option Addr} {l_1l : Nat} {l_1c : Nat} {w : World} {g : Fn W (RTy.leaves (.s (.one .slice)))} (h : F22 (fun v => Back (.s (.one .slice)) g (.returned v)) l_1p l_1l l_1c w) : CallT Go.Proofs.Try.prog 22 [.slice l_1p l_1l l_1c] (.s (.one .slice)) g w := F22_calls h

/-! ## slice.Int64Slice).Sort -/
def F23 (k : Value → W) (s_1p : Option Addr) (s_1l : Nat) (s_1c : Nat) : W :=
 CallT Go.Proofs.Try.prog 33 [.iface 45 (.slice s_1p s_1l s_1c)] (.tup []) <|
 k (.tuple #[])
theorem F23_eq (k : Value → W) (s_1p : Option Addr) (s_1l : Nat) (s_1c : Nat) : compF Go.Proofs.Try.prog Go.Proofs.Try.f23 [] (Go.Proofs.Try.f23.body.getD .skip) [.slice s_1p s_1l s_1c] k = F23 k s_1p s_1l s_1c := by kernel_rfl
theorem F23_calls {s_1p : Option Addr} {s_1l : Nat} {s_1c : Nat} {w : World} {R : Ending → World → Prop} (h : F23 (fun v w => R (.returned v) w) s_1p s_1l s_1c w) : Calls Go.Proofs.Try.prog 23 #[.slice s_1p s_1l s_1c] w R :=
  calls_of_compF noNum follows [] (f := 23) (fn := Go.Proofs.Try.f23) (body := Go.Proofs.Try.f23.body.getD .skip) (args := [.slice s_1p s_1l s_1c]) rfl rfl (Nat.le_of_ble_eq_true rfl) ((congrFun (F23_eq _ s_1p s_1l s_1c) w).mpr h)
theorem F23_call {s_1p : Option Addr} {s_1l : Nat} {s_1c : Nat} {w : World} {g : Fn W (RTy.leaves (.tup []))} (h : F23 (fun v => Back (.tup []) g (.returned v)) s_1p s_1l s_1c w) : CallT Go.Proofs.Try.prog 23 [.slice s_1p s_1l s_1c] (.tup []) g w := F23_calls h

/-! ## impl.ISSort -/
def F8 (k : Value → W) (l_1p : Option Addr) (l_1l : Nat) (l_1c : Nat) : W :=
 CallT Go.Proofs.Try.prog 22 [.slice l_1p l_1l l_1c] (.s (.one .slice)) fun s2p s2l s2c =>
 CallT Go.Proofs.Try.prog 23 [.slice s2p s2l s2c] (.tup []) <|
 k (.slice s2p s2l s2c)
theorem F8_eq (k : Value → W) (l_1p : Option Addr) (l_1l : Nat) (l_1c : Nat) : compF Go.Proofs.Try.prog Go.Proofs.Try.f8 [] (Go.Proofs.Try.f8.body.getD .skip) [.slice l_1p l_1l l_1c] k = F8 k l_1p l_1l l_1c := by kernel_rfl
theorem F8_calls {l_1p : Option Addr} {l_1l : Nat} {l_1c : Nat} {w : World} {R : Ending → World → Prop} (h : F8 (fun v w => R (.returned v) w) l_1p l_1l l_1c w) : Calls Go.Proofs.Try.prog 8 #[.slice l_1p l_1l l_1c] w R :=
  calls_of_compF noNum follows [] (f := 8) (fn := Go.Proofs.Try.f8) (body := Go.Proofs.Try.f8.body.getD .skip) (args := [.slice l_1p l_1l l_1c]) rfl rfl (Nat.le_of_ble_eq_true rfl) ((congrFun (F8_eq _ l_1p l_1l l_1c) w).mpr h)
theorem F8_call {l_1p : Option Addr} {l_1l : Nat} {l_1c : Nat} {w : World} {g : Fn W (RTy.leaves (.s (.one .slice)))} (h : F8 (fun v => Back (.s (.one .slice)) g (.returned v)) l_1p l_1l l_1c w) : CallT Go.Proofs.Try.prog 8 [.slice l_1p l_1l l_1c] (.s (.one .slice)) g w := F8_calls h

/-! ## laws.diLongs -/
def F9_L1 (k : Value → W) (again8 : Int → Option Addr → Nat → Nat → Option Addr → Nat → Nat → Int → Int → W) (by_3 : Int) (out_4p : Option Addr) (out_4l : Nat) (out_4c : Nat) (s5p : Option Addr) (s5l : Nat) (s5c : Nat) (x6 : Int) (x7 : Int) : W :=
 BIf (decide (x7 < x6)) (
  NN s5p fun a9 =>
  Req (0 ≤ x7 ∧ x7 < ((s5l : Nat) : Int)) <|
  LoadT (.int .i16) (a9.add x7.toNat) fun x10 =>
  RawT Go.Proofs.Try.prog (Instr.buildSlice 25 1 [(0, .int .i64 (addI .i64 (IntKind.wrap .i64 x10) by_3))].toArray) (.s (.one .slice)) fun s11p s11l s11c =>
  NextT Go.Proofs.Try.prog (builtin .append #[25, 25] 25 [false, false].toArray [.slice out_4p out_4l out_4c, .slice s11p s11l s11c].toArray) (.s (.one .slice)) fun s12p s12l s12c =>
  again8 by_3 s12p s12l s12c s5p s5l s5c x6 (addI .i64 x7 1)) (
  k (.slice out_4p out_4l out_4c))
theorem F9_L1_rule {k : Value → W} (I : Int → Option Addr → Nat → Nat → Option Addr → Nat → Nat → Int → Int → W) (μ : Int → Option Addr → Nat → Nat → Option Addr → Nat → Nat → Int → Int → World → Nat)
  (hr : ∀ (by_3 : Int) (out_4p : Option Addr) (out_4l : Nat) (out_4c : Nat) (s5p : Option Addr) (s5l : Nat) (s5c : Nat) (x6 : Int) (x7 : Int) (w : World), I by_3 out_4p out_4l out_4c s5p s5l s5c x6 x7 w → F9_L1 k (fun by_3' out_4p' out_4l' out_4c' s5p' s5l' s5c' x6' x7' w' => I by_3' out_4p' out_4l' out_4c' s5p' s5l' s5c' x6' x7' w' ∧ μ by_3' out_4p' out_4l' out_4c' s5p' s5l' s5c' x6' x7' w' < μ by_3 out_4p out_4l out_4c s5p s5l s5c x6 x7 w) by_3 out_4p out_4l out_4c s5p s5l s5c x6 x7 w)
  {w : World} {by_3 : Int} {out_4p : Option Addr} {out_4l : Nat} {out_4c : Nat} {s5p : Option Addr} {s5l : Nat} {s5c : Nat} {x6 : Int} {x7 : Int} (h : I by_3 out_4p out_4l out_4c s5p s5l s5c x6 x7 w) : Loop [(.int .i64), .slice, .slice, (.int .i64), (.int .i64)] (F9_L1 k) by_3 out_4p out_4l out_4c s5p s5l s5c x6 x7 w :=
  Loop_intro (ts := [(.int .i64), .slice, .slice, (.int .i64), (.int .i64)]) (s := (by_3, (out_4p, out_4l, out_4c), (s5p, s5l, s5c), x6, x7, ())) (fun s w => I s.1 s.2.1.1 s.2.1.2.1 s.2.1.2.2 s.2.2.1.1 s.2.2.1.2.1 s.2.2.1.2.2 s.2.2.2.1 s.2.2.2.2.1 w) (fun s w => μ s.1 s.2.1.1 s.2.1.2.1 s.2.1.2.2 s.2.2.1.1 s.2.2.1.2.1 s.2.2.1.2.2 s.2.2.2.1 s.2.2.2.2.1 w) h (fun s w h => hr s.1 s.2.1.1 s.2.1.2.1 s.2.1.2.2 s.2.2.1.1 s.2.2.1.2.1 s.2.2.1.2.2 s.2.2.2.1 s.2.2.2.2.1 w h)
def F9 (k : Value → W) (l_1p : Option Addr) (l_1l : Nat) (l_1c : Nat) (by_2 : Int) : W :=
 Loop [(.int .i64), .slice, .slice, (.int .i64), (.int .i64)] (F9_L1 k) by_2 none 0 0 l_1p l_1l l_1c ((l_1l : Nat) : Int) 0
theorem F9_eq (k : Value → W) (l_1p : Option Addr) (l_1l : Nat) (l_1c : Nat) (by_2 : Int) : compF Go.Proofs.Try.prog Go.Proofs.Try.f9 [(3, [(1, (.int .i64)), (5, .slice), (8, .slice), (9, (.int .i64)), (10, (.int .i64))])] (Go.Proofs.Try.f9.body.getD .skip) [.slice l_1p l_1l l_1c, .int .i64 by_2] k = F9 k l_1p l_1l l_1c by_2 := by kernel_rfl
theorem F9_calls {l_1p : Option Addr} {l_1l : Nat} {l_1c : Nat} {by_2 : Int} {w : World} {R : Ending → World → Prop} (h : F9 (fun v w => R (.returned v) w) l_1p l_1l l_1c by_2 w) : Calls Go.Proofs.Try.prog 9 #[.slice l_1p l_1l l_1c, .int .i64 by_2] w R :=
  calls_of_compF noNum follows [(3, [(1, (.int .i64)), (5, .slice), (8, .slice), (9, (.int .i64)), (10, (.int .i64))])] (f := 9) (fn := Go.Proofs.Try.f9) (body := Go.Proofs.Try.f9.body.getD .skip) (args := [.slice l_1p l_1l l_1c, .int .i64 by_2]) rfl rfl (Nat.le_of_ble_eq_true rfl) ((congrFun (F9_eq _ l_1p l_1l l_1c by_2) w).mpr h)
theorem F9_call {l_1p : Option Addr} {l_1l : Nat} {l_1c : Nat} {by_2 : Int} {w : World} {g : Fn W (RTy.leaves (.s (.one .slice)))} (h : F9 (fun v => Back (.s (.one .slice)) g (.returned v)) l_1p l_1l l_1c by_2 w) : CallT Go.Proofs.Try.prog 9 [.slice l_1p l_1l l_1c, .int .i64 by_2] (.s (.one .slice)) g w := F9_calls h

/-! ## sort.Search -/
def F34_L1 (k : Value → W) (again6 : Value → Int → Int → W) (f_3 : Value) (i_4 : Int) (j_5 : Int) : W :=
 BIf (decide (i_4 < j_5)) (
  Bind (IntKind.wrap .i64 (shrI .u64 (IntKind.wrap .u64 (addI .i64 i_4 j_5)) 1) : Int) fun h_7 =>
  NextT Go.Proofs.Try.prog (callV f_3 [.int .i64 h_7].toArray) (.s (.one .bool)) fun b8 =>
  BIf (!b8) (
   again6 f_3 (addI .i64 h_7 1) j_5) (
   again6 f_3 i_4 h_7)) (
  k (.int .i64 i_4))
theorem F34_L1_rule {k : Value → W} (I : Value → Int → Int → W) (μ : Value → Int → Int → World → Nat)
  (hr : ∀ (f_3 : Value) (i_4 : Int) (j_5 : Int) (w : World), I f_3 i_4 j_5 w → F34_L1 k (fun f_3' i_4' j_5' w' => I f_3' i_4' j_5' w' ∧ μ f_3' i_4' j_5' w' < μ f_3 i_4 j_5 w) f_3 i_4 j_5 w)
  {w : World} {f_3 : Value} {i_4 : Int} {j_5 : Int} (h : I f_3 i_4 j_5 w) : Loop [.any, (.int .i64), (.int .i64)] (F34_L1 k) f_3 i_4 j_5 w :=
  Loop_intro (ts := [.any, (.int .i64), (.int .i64)]) (s := (f_3, i_4, j_5, ())) (fun s w => I s.1 s.2.1 s.2.2.1 w) (fun s w => μ s.1 s.2.1 s.2.2.1 w) h (fun s w h => hr s.1 s.2.1 s.2.2.1 w h)
def F34 (k : Value → W) (n_1 : Int) (f_2 : Value) : W :=
 Loop [.any, (.int .i64), (.int .i64)] (F34_L1 k) f_2 0 n_1
theorem F34_eq (k : Value → W) (n_1 : Int) (f_2 : Value) : compF Go.Proofs.Try.prog Go.Proofs.Try.f34 [(2, [(1, .any), (5, (.int .i64)), (6, (.int .i64))])] (Go.Proofs.Try.f34.body.getD .skip) [.int .i64 n_1, f_2] k = F34 k n_1 f_2 := by kernel_rfl
theorem F34_calls {n_1 : Int} {f_2 : Value} {w : World} {R : Ending → World → Prop} (h : F34 (fun v w => R (.returned v) w) n_1 f_2 w) : Calls Go.Proofs.Try.prog 34 #[.int .i64 n_1, f_2] w R :=
  calls_of_compF noNum follows [(2, [(1, .any), (5, (.int .i64)), (6, (.int .i64))])] (f := 34) (fn := Go.Proofs.Try.f34) (body := Go.Proofs.Try.f34.body.getD .skip) (args := [.int .i64 n_1, f_2]) rfl rfl (Nat.le_of_ble_eq_true rfl) ((congrFun (F34_eq _ n_1 f_2) w).mpr h)
theorem F34_call {n_1 : Int} {f_2 : Value} {w : World} {g : Fn W (RTy.leaves (.s (.one (.int .i64))))} (h : F34 (fun v => Back (.s (.one (.int .i64))) g (.returned v)) n_1 f_2 w) : CallT Go.Proofs.Try.prog 34 [.int .i64 n_1, f_2] (.s (.one (.int .i64))) g w := F34_calls h

/-! ## slice.Int64Slice).Search -/
def F24 (k : Value → W) (s_1p : Option Addr) (s_1l : Nat) (s_1c : Nat) (x_2 : Int) : W :=
 New [.slice s_1p s_1l s_1c] 45 fun n3 =>
 New [.int .i64 x_2] 2 fun n4 =>
 LoadT .slice ⟨n3, 0, none⟩ fun s5p s5l s5c =>
 CallT Go.Proofs.Try.prog 34 [.int .i64 ((s5l : Nat) : Int), .func (.func 35) #[] #[.pointer (some ⟨n3, 0, none⟩), .pointer (some ⟨n4, 0, none⟩)]] (.s (.one (.int .i64))) fun x6 =>
 k (.int .i64 x6)
theorem F24_eq (k : Value → W) (s_1p : Option Addr) (s_1l : Nat) (s_1c : Nat) (x_2 : Int) : compF Go.Proofs.Try.prog Go.Proofs.Try.f24 [] (Go.Proofs.Try.f24.body.getD .skip) [.slice s_1p s_1l s_1c, .int .i64 x_2] k = F24 k s_1p s_1l s_1c x_2 := by kernel_rfl
theorem F24_calls {s_1p : Option Addr} {s_1l : Nat} {s_1c : Nat} {x_2 : Int} {w : World} {R : Ending → World → Prop} (h : F24 (fun v w => R (.returned v) w) s_1p s_1l s_1c x_2 w) : Calls Go.Proofs.Try.prog 24 #[.slice s_1p s_1l s_1c, .int .i64 x_2] w R :=
  calls_of_compF noNum follows [] (f := 24) (fn := Go.Proofs.Try.f24) (body := Go.Proofs.Try.f24.body.getD .skip) (args := [.slice s_1p s_1l s_1c, .int .i64 x_2]) rfl rfl (Nat.le_of_ble_eq_true rfl) ((congrFun (F24_eq _ s_1p s_1l s_1c x_2) w).mpr h)
theorem F24_call {s_1p : Option Addr} {s_1l : Nat} {s_1c : Nat} {x_2 : Int} {w : World} {g : Fn W (RTy.leaves (.s (.one (.int .i64))))} (h : F24 (fun v => Back (.s (.one (.int .i64))) g (.returned v)) s_1p s_1l s_1c x_2 w) : CallT Go.Proofs.Try.prog 24 [.slice s_1p s_1l s_1c, .int .i64 x_2] (.s (.one (.int .i64))) g w := F24_calls h

/-! ## impl.ISSearch -/
def F10 (k : Value → W) (l_1p : Option Addr) (l_1l : Nat) (l_1c : Nat) (x_2 : Int) : W :=
 CallT Go.Proofs.Try.prog 22 [.slice l_1p l_1l l_1c] (.s (.one .slice)) fun s3p s3l s3c =>
 CallT Go.Proofs.Try.prog 24 [.slice s3p s3l s3c, .int .i64 x_2] (.s (.one (.int .i64))) fun x4 =>
 k (.int .i64 x4)
theorem F10_eq (k : Value → W) (l_1p : Option Addr) (l_1l : Nat) (l_1c : Nat) (x_2 : Int) : compF Go.Proofs.Try.prog Go.Proofs.Try.f10 [] (Go.Proofs.Try.f10.body.getD .skip) [.slice l_1p l_1l l_1c, .int .i64 x_2] k = F10 k l_1p l_1l l_1c x_2 := by kernel_rfl
theorem F10_calls {l_1p : Option Addr} {l_1l : Nat} {l_1c : Nat} {x_2 : Int} {w : World} {R : Ending → World → Prop} (h : F10 (fun v w => R (.returned v) w) l_1p l_1l l_1c x_2 w) : Calls Go.Proofs.Try.prog 10 #[.slice l_1p l_1l l_1c, .int .i64 x_2] w R :=
  calls_of_compF noNum follows [] (f := 10) (fn := Go.Proofs.Try.f10) (body := Go.Proofs.Try.f10.body.getD .skip) (args := [.slice l_1p l_1l l_1c, .int .i64 x_2]) rfl rfl (Nat.le_of_ble_eq_true rfl) ((congrFun (F10_eq _ l_1p l_1l l_1c x_2) w).mpr h)
theorem F10_call {l_1p : Option Addr} {l_1l : Nat} {l_1c : Nat} {x_2 : Int} {w : World} {g : Fn W (RTy.leaves (.s (.one (.int .i64))))} (h : F10 (fun v => Back (.s (.one (.int .i64))) g (.returned v)) l_1p l_1l l_1c x_2 w) : CallT Go.Proofs.Try.prog 10 [.slice l_1p l_1l l_1c, .int .i64 x_2] (.s (.one (.int .i64))) g w := F10_calls h

/-! ## slice.Int64Slice).Exists -/
def F25 (k : Value → W) (s_1p : Option Addr) (s_1l : Nat) (s_1c : Nat) (x_2 : Int) : W :=
 CallT Go.Proofs.Try.prog 24 [.slice s_1p s_1l s_1c, .int .i64 x_2] (.s (.one (.int .i64))) fun x3 =>
 BIf (x3 == ((s_1l : Nat) : Int)) (
  k (.bool false)) (
  NN s_1p fun a4 =>
  Req (0 ≤ x3 ∧ x3 < ((s_1l : Nat) : Int)) <|
  LoadT (.int .i64) (a4.add x3.toNat) fun x5 =>
  k (.bool (x5 == x_2)))
theorem F25_eq (k : Value → W) (s_1p : Option Addr) (s_1l : Nat) (s_1c : Nat) (x_2 : Int) : compF Go.Proofs.Try.prog Go.Proofs.Try.f25 [] (Go.Proofs.Try.f25.body.getD .skip) [.slice s_1p s_1l s_1c, .int .i64 x_2] k = F25 k s_1p s_1l s_1c x_2 := by kernel_rfl
theorem F25_calls {s_1p : Option Addr} {s_1l : Nat} {s_1c : Nat} {x_2 : Int} {w : World} {R : Ending → World → Prop} (h : F25 (fun v w => R (.returned v) w) s_1p s_1l s_1c x_2 w) : Calls Go.Proofs.Try.prog 25 #[.slice s_1p s_1l s_1c, .int .i64 x_2] w R :=
  calls_of_compF noNum follows [] (f := 25) (fn := Go.Proofs.Try.f25) (body := Go.Proofs.Try.f25.body.getD .skip) (args := [.slice s_1p s_1l s_1c, .int .i64 x_2]) rfl rfl (Nat.le_of_ble_eq_true rfl) ((congrFun (F25_eq _ s_1p s_1l s_1c x_2) w).mpr h)
theorem F25_call {s_1p : Option Addr} {s_1l : Nat} {s_1c : Nat} {x_2 : Int} {w : World} {g : Fn W (RTy.leaves (.s (.one .bool)))} (h : F25 (fun v => Back (.s (.one .bool)) g (.returned v)) s_1p s_1l s_1c x_2 w) : CallT Go.Proofs.Try.prog 25 [.slice s_1p s_1l s_1c, .int .i64 x_2] (.s (.one .bool)) g w := F25_calls h

/-! ## impl.ISExists -/
def F11 (k : Value → W) (l_1p : Option Addr) (l_1l : Nat) (l_1c : Nat) (x_2 : Int) : W :=
 CallT Go.Proofs.Try.prog 22 [.slice l_1p l_1l l_1c] (.s (.one .slice)) fun s3p s3l s3c =>
 CallT Go.Proofs.Try.prog 25 [.slice s3p s3l s3c, .int .i64 x_2] (.s (.one .bool)) fun b4 =>
 k (.bool b4)
theorem F11_eq (k : Value → W) (l_1p : Option Addr) (l_1l : Nat) (l_1c : Nat) (x_2 : Int) : compF Go.Proofs.Try.prog Go.Proofs.Try.f11 [] (Go.Proofs.Try.f11.body.getD .skip) [.slice l_1p l_1l l_1c, .int .i64 x_2] k = F11 k l_1p l_1l l_1c x_2 := by kernel_rfl
theorem F11_calls {l_1p : Option Addr} {l_1l : Nat} {l_1c : Nat} {x_2 : Int} {w : World} {R : Ending → World → Prop} (h : F11 (fun v w => R (.returned v) w) l_1p l_1l l_1c x_2 w) : Calls Go.Proofs.Try.prog 11 #[.slice l_1p l_1l l_1c, .int .i64 x_2] w R :=
  calls_of_compF noNum follows [] (f := 11) (fn := Go.Proofs.Try.f11) (body := Go.Proofs.Try.f11.body.getD .skip) (args := [.slice l_1p l_1l l_1c, .int .i64 x_2]) rfl rfl (Nat.le_of_ble_eq_true rfl) ((congrFun (F11_eq _ l_1p l_1l l_1c x_2) w).mpr h)
theorem F11_call {l_1p : Option Addr} {l_1l : Nat} {l_1c : Nat} {x_2 : Int} {w : World} {g : Fn W (RTy.leaves (.s (.one .bool)))} (h : F11 (fun v => Back (.s (.one .bool)) g (.returned v)) l_1p l_1l l_1c x_2 w) : CallT Go.Proofs.Try.prog 11 [.slice l_1p l_1l l_1c, .int .i64 x_2] (.s (.one .bool)) g w := F11_calls h

/-! ## laws.FnISShift -/
def F3 (k : Value → W) (l_1p : Option Addr) (l_1l : Nat) (l_1c : Nat) (x_2 : Int) (by_3 : Int) : W :=
 BIf (decide (((l_1l : Nat) : Int) > 2147483647)) (
  k (.bool true)) (
  CallT Go.Proofs.Try.prog 7 [.slice l_1p l_1l l_1c] (.s (.one .bool)) fun b4 =>
  BIf (!b4) (
   k (.bool true)) (
   CallT Go.Proofs.Try.prog 9 [.slice l_1p l_1l l_1c, .int .i64 0] (.s (.one .slice)) fun s5p s5l s5c =>
   CallT Go.Proofs.Try.prog 8 [.slice s5p s5l s5c] (.s (.one .slice)) fun s6p s6l s6c =>
   CallT Go.Proofs.Try.prog 9 [.slice l_1p l_1l l_1c, .int .i64 (IntKind.wrap .i64 by_3)] (.s (.one .slice)) fun s7p s7l s7c =>
   CallT Go.Proofs.Try.prog 8 [.slice s7p s7l s7c] (.s (.one .slice)) fun s8p s8l s8c =>
   Drw <|
   BIf (((s6l : Nat) : Int) != ((l_1l : Nat) : Int)) (
    k (.bool false)) (
    BIf (((s8l : Nat) : Int) != ((l_1l : Nat) : Int)) (
     k (.bool false)) (
     NN s8p fun a9 =>
     Req (0 ≤ (0 : Int) ∧ (0 : Int) < ((s8l : Nat) : Int)) <|
     LoadT (.int .i64) (a9.add ((0 : Int).toNat)) fun x10 =>
     NN s6p fun a11 =>
     Req (0 ≤ (0 : Int) ∧ (0 : Int) < ((s6l : Nat) : Int)) <|
     LoadT (.int .i64) (a11.add ((0 : Int).toNat)) fun x12 =>
     BIf (x10 != (addI .i64 x12 (IntKind.wrap .i64 by_3))) (
      k (.bool false)) (
      CallT Go.Proofs.Try.prog 10 [.slice s6p s6l s6c, .int .i64 (IntKind.wrap .i64 x_2)] (.s (.one (.int .i64))) fun x13 =>
      CallT Go.Proofs.Try.prog 10 [.slice s8p s8l s8c, .int .i64 (addI .i64 (IntKind.wrap .i64 x_2) (IntKind.wrap .i64 by_3))] (.s (.one (.int .i64))) fun x14 =>
      BIf (x13 == x14) (
       NN l_1p fun a15 =>
       Req (0 ≤ (0 : Int) ∧ (0 : Int) < ((l_1l : Nat) : Int)) <|
       LoadT (.int .i16) (a15.add ((0 : Int).toNat)) fun x16 =>
       CallT Go.Proofs.Try.prog 11 [.slice s6p s6l s6c, .int .i64 (IntKind.wrap .i64 x16)] (.s (.one .bool)) fun b17 =>
       BIf b17 (
        NN l_1p fun a18 =>
        Req (0 ≤ (0 : Int) ∧ (0 : Int) < ((l_1l : Nat) : Int)) <|
        LoadT (.int .i16) (a18.add ((0 : Int).toNat)) fun x19 =>
        CallT Go.Proofs.Try.prog 11 [.slice s8p s8l s8c, .int .i64 (addI .i64 (IntKind.wrap .i64 x19) (IntKind.wrap .i64 by_3))] (.s (.one .bool)) fun b20 =>
        k (.bool b20)) (
        k (.bool false))) (
       k (.bool false)))))))
theorem F3_eq (k : Value → W) (l_1p : Option Addr) (l_1l : Nat) (l_1c : Nat) (x_2 : Int) (by_3 : Int) : compF Go.Proofs.Try.prog Go.Proofs.Try.f3 [] (Go.Proofs.Try.f3.body.getD .skip) [.slice l_1p l_1l l_1c, .int .i16 x_2, .int .i16 by_3] k = F3 k l_1p l_1l l_1c x_2 by_3 := by kernel_rfl
theorem F3_calls {l_1p : Option Addr} {l_1l : Nat} {l_1c : Nat} {x_2 : Int} {by_3 : Int} {w : World} {R : Ending → World → Prop} (h : F3 (fun v w => R (.returned v) w) l_1p l_1l l_1c x_2 by_3 w) : Calls Go.Proofs.Try.prog 3 #[.slice l_1p l_1l l_1c, .int .i16 x_2, .int .i16 by_3] w R :=
  calls_of_compF noNum follows [] (f := 3) (fn := Go.Proofs.Try.f3) (body := Go.Proofs.Try.f3.body.getD .skip) (args := [.slice l_1p l_1l l_1c, .int .i16 x_2, .int .i16 by_3]) rfl rfl (Nat.le_of_ble_eq_true rfl) ((congrFun (F3_eq _ l_1p l_1l l_1c x_2 by_3) w).mpr h)
theorem F3_call {l_1p : Option Addr} {l_1l : Nat} {l_1c : Nat} {x_2 : Int} {by_3 : Int} {w : World} {g : Fn W (RTy.leaves (.s (.one .bool)))} (h : F3 (fun v => Back (.s (.one .bool)) g (.returned v)) l_1p l_1l l_1c x_2 by_3 w) : CallT Go.Proofs.Try.prog 3 [.slice l_1p l_1l l_1c, .int .i16 x_2, .int .i16 by_3] (.s (.one .bool)) g w := F3_calls h

/-! ## slices.Clone[[]int16,int16] -/
def F26 (k : Value → W) (s_1p : Option Addr) (s_1l : Nat) (s_1c : Nat) : W :=
 BIf s_1p.isNone (
  k (.slice none 0 0)) (
  RawT Go.Proofs.Try.prog (Instr.buildSlice 22 0 [].toArray) (.s (.one .slice)) fun s2p s2l s2c =>
  NextT Go.Proofs.Try.prog (builtin .append #[22, 22] 22 [false, false].toArray [.slice s2p s2l s2c, .slice s_1p s_1l s_1c].toArray) (.s (.one .slice)) fun s3p s3l s3c =>
  k (.slice s3p s3l s3c))
theorem F26_eq (k : Value → W) (s_1p : Option Addr) (s_1l : Nat) (s_1c : Nat) : compF Go.Proofs.Try.prog Go.Proofs.Try.f26 [] (Go.Proofs.Try.f26.body.getD .skip) [.slice s_1p s_1l s_1c] k = F26 k s_1p s_1l s_1c := by kernel_rfl
theorem F26_calls {s_1p : Option Addr} {s_1l : Nat} {s_1c : Nat} {w : World} {R : Ending → World → Prop} (h : F26 (fun v w => R (.returned v) w) s_1p s_1l s_1c w) : Calls Go.Proofs.Try.prog 26 #[.slice s_1p s_1l s_1c] w R :=
  calls_of_compF noNum follows [] (f := 26) (fn := Go.Proofs.Try.f26) (body := Go.Proofs.Try.f26.body.getD .skip) (args := [.slice s_1p s_1l s_1c]) rfl rfl (Nat.le_of_ble_eq_true rfl) ((congrFun (F26_eq _ s_1p s_1l s_1c) w).mpr h)
theorem F26_call {s_1p : Option Addr} {s_1l : Nat} {s_1c : Nat} {w : World} {g : Fn W (RTy.leaves (.s (.one .slice)))} (h : F26 (fun v => Back (.s (.one .slice)) g (.returned v)) s_1p s_1l s_1c w) : CallT Go.Proofs.Try.prog 26 [.slice s_1p s_1l s_1c] (.s (.one .slice)) g w := F26_calls h

/-! ## slices.Reverse[[]int16,int16] -/
def F27_L1 (k : Value → W) (again6 : Option Addr → Nat → Nat → Int → Int → W) (s_3p : Option Addr) (s_3l : Nat) (s_3c : Nat) (i_4 : Int) (j_5 : Int) : W :=
 BIf (decide (i_4 < j_5)) (
  Drw <|
  NN s_3p fun a7 =>
  Req (0 ≤ j_5 ∧ j_5 < ((s_3l : Nat) : Int)) <|
  LoadT (.int .i16) (a7.add j_5.toNat) fun x8 =>
  NN s_3p fun a9 =>
  Req (0 ≤ i_4 ∧ i_4 < ((s_3l : Nat) : Int)) <|
  LoadT (.int .i16) (a9.add i_4.toNat) fun x10 =>
  NN s_3p fun a11 =>
  Req (0 ≤ i_4 ∧ i_4 < ((s_3l : Nat) : Int)) <|
  Store1 (a11.add i_4.toNat) (.int .i16 x8) <|
  NN s_3p fun a12 =>
  Req (0 ≤ j_5 ∧ j_5 < ((s_3l : Nat) : Int)) <|
  Store1 (a12.add j_5.toNat) (.int .i16 x10) <|
  again6 s_3p s_3l s_3c (addI .i64 i_4 1) (subI .i64 j_5 1)) (
  k (.tuple #[]))
theorem F27_L1_rule {k : Value → W} (I : Option Addr → Nat → Nat → Int → Int → W) (μ : Option Addr → Nat → Nat → Int → Int → World → Nat)
  (hr : ∀ (s_3p : Option Addr) (s_3l : Nat) (s_3c : Nat) (i_4 : Int) (j_5 : Int) (w : World), I s_3p s_3l s_3c i_4 j_5 w → F27_L1 k (fun s_3p' s_3l' s_3c' i_4' j_5' w' => I s_3p' s_3l' s_3c' i_4' j_5' w' ∧ μ s_3p' s_3l' s_3c' i_4' j_5' w' < μ s_3p s_3l s_3c i_4 j_5 w) s_3p s_3l s_3c i_4 j_5 w)
  {w : World} {s_3p : Option Addr} {s_3l : Nat} {s_3c : Nat} {i_4 : Int} {j_5 : Int} (h : I s_3p s_3l s_3c i_4 j_5 w) : Loop [.slice, (.int .i64), (.int .i64)] (F27_L1 k) s_3p s_3l s_3c i_4 j_5 w :=
  Loop_intro (ts := [.slice, (.int .i64), (.int .i64)]) (s := ((s_3p, s_3l, s_3c), i_4, j_5, ())) (fun s w => I s.1.1 s.1.2.1 s.1.2.2 s.2.1 s.2.2.1 w) (fun s w => μ s.1.1 s.1.2.1 s.1.2.2 s.2.1 s.2.2.1 w) h (fun s w h => hr s.1.1 s.1.2.1 s.1.2.2 s.2.1 s.2.2.1 w h)
def F27 (k : Value → W) (s_1p : Option Addr) (s_1l : Nat) (s_1c : Nat) : W :=
 Bind (subI .i64 ((s_1l : Nat) : Int) 1 : Int) fun j_2 =>
 Loop [.slice, (.int .i64), (.int .i64)] (F27_L1 k) s_1p s_1l s_1c 0 j_2
theorem F27_eq (k : Value → W) (s_1p : Option Addr) (s_1l : Nat) (s_1c : Nat) : compF Go.Proofs.Try.prog Go.Proofs.Try.f27 [(1, [(0, .slice), (2, (.int .i64)), (3, (.int .i64))])] (Go.Proofs.Try.f27.body.getD .skip) [.slice s_1p s_1l s_1c] k = F27 k s_1p s_1l s_1c := by kernel_rfl
theorem F27_calls {s_1p : Option Addr} {s_1l : Nat} {s_1c : Nat} {w : World} {R : Ending → World → Prop} (h : F27 (fun v w => R (.returned v) w) s_1p s_1l s_1c w) : Calls Go.Proofs.Try.prog 27 #[.slice s_1p s_1l s_1c] w R :=
  calls_of_compF noNum follows [(1, [(0, .slice), (2, (.int .i64)), (3, (.int .i64))])] (f := 27) (fn := Go.Proofs.Try.f27) (body := Go.Proofs.Try.f27.body.getD .skip) (args := [.slice s_1p s_1l s_1c]) rfl rfl (Nat.le_of_ble_eq_true rfl) ((congrFun (F27_eq _ s_1p s_1l s_1c) w).mpr h)
theorem F27_call {s_1p : Option Addr} {s_1l : Nat} {s_1c : Nat} {w : World} {g : Fn W (RTy.leaves (.tup []))} (h : F27 (fun v => Back (.tup []) g (.returned v)) s_1p s_1l s_1c w) : CallT Go.Proofs.Try.prog 27 [.slice s_1p s_1l s_1c] (.tup []) g w := F27_calls h

/-! ## laws.dxTurned -/
def F12 (k : Value → W) (l_1p : Option Addr) (l_1l : Nat) (l_1c : Nat) : W :=
 CallT Go.Proofs.Try.prog 26 [.slice l_1p l_1l l_1c] (.s (.one .slice)) fun s2p s2l s2c =>
 CallT Go.Proofs.Try.prog 27 [.slice s2p s2l s2c] (.tup []) <|
 k (.slice s2p s2l s2c)
theorem F12_eq (k : Value → W) (l_1p : Option Addr) (l_1l : Nat) (l_1c : Nat) : compF Go.Proofs.Try.prog Go.Proofs.Try.f12 [] (Go.Proofs.Try.f12.body.getD .skip) [.slice l_1p l_1l l_1c] k = F12 k l_1p l_1l l_1c := by kernel_rfl
theorem F12_calls {l_1p : Option Addr} {l_1l : Nat} {l_1c : Nat} {w : World} {R : Ending → World → Prop} (h : F12 (fun v w => R (.returned v) w) l_1p l_1l l_1c w) : Calls Go.Proofs.Try.prog 12 #[.slice l_1p l_1l l_1c] w R :=
  calls_of_compF noNum follows [] (f := 12) (fn := Go.Proofs.Try.f12) (body := Go.Proofs.Try.f12.body.getD .skip) (args := [.slice l_1p l_1l l_1c]) rfl rfl (Nat.le_of_ble_eq_true rfl) ((congrFun (F12_eq _ l_1p l_1l l_1c) w).mpr h)
theorem F12_call {l_1p : Option Addr} {l_1l : Nat} {l_1c : Nat} {w : World} {g : Fn W (RTy.leaves (.s (.one .slice)))} (h : F12 (fun v => Back (.s (.one .slice)) g (.returned v)) l_1p l_1l l_1c w) : CallT Go.Proofs.Try.prog 12 [.slice l_1p l_1l l_1c] (.s (.one .slice)) g w := F12_calls h

/-! ## cmp.isNaN[int64] -/
def F36 (k : Value → W) (x_1 : Int) : W :=
 k (.bool (x_1 != x_1))
theorem F36_eq (k : Value → W) (x_1 : Int) : compF Go.Proofs.Try.prog Go.Proofs.Try.f36 [] (Go.Proofs.Try.f36.body.getD .skip) [.int .i64 x_1] k = F36 k x_1 := by kernel_rfl
theorem F36_calls {x_1 : Int} {w : World} {R : Ending → World → Prop} (h : F36 (fun v w => R (.returned v) w) x_1 w) : Calls Go.Proofs.Try.prog 36 #[.int .i64 x_1] w R :=
  calls_of_compF noNum follows [] (f := 36) (fn := Go.Proofs.Try.f36) (body := Go.Proofs.Try.f36.body.getD .skip) (args := [.int .i64 x_1]) rfl rfl (Nat.le_of_ble_eq_true rfl) ((congrFun (F36_eq _ x_1) w).mpr h)
theorem F36_call {x_1 : Int} {w : World} {g : Fn W (RTy.leaves (.s (.one .bool)))} (h : F36 (fun v => Back (.s (.one .bool)) g (.returned v)) x_1 w) : CallT Go.Proofs.Try.prog 36 [.int .i64 x_1] (.s (.one .bool)) g w := F36_calls h

/-! ## cmp.Less[int64] -/
def F28 (k : Value → W) (x_1 : Int) (y_2 : Int) : W :=
 CallT Go.Proofs.Try.prog 36 [.int .i64 x_1] (.s (.one .bool)) fun b3 =>
 BIf b3 (
  CallT Go.Proofs.Try.prog 36 [.int .i64 y_2] (.s (.one .bool)) fun b4 =>
  BIf (!b4) (
   k (.bool true)) (
   k (.bool (decide (x_1 < y_2))))) (
  k (.bool (decide (x_1 < y_2))))
theorem F28_eq (k : Value → W) (x_1 : Int) (y_2 : Int) : compF Go.Proofs.Try.prog Go.Proofs.Try.f28 [] (Go.Proofs.Try.f28.body.getD .skip) [.int .i64 x_1, .int .i64 y_2] k = F28 k x_1 y_2 := by kernel_rfl
theorem F28_calls {x_1 : Int} {y_2 : Int} {w : World} {R : Ending → World → Prop} (h : F28 (fun v w => R (.returned v) w) x_1 y_2 w) : Calls Go.Proofs.Try.prog 28 #[.int .i64 x_1, .int .i64 y_2] w R :=
  calls_of_compF noNum follows [] (f := 28) (fn := Go.Proofs.Try.f28) (body := Go.Proofs.Try.f28.body.getD .skip) (args := [.int .i64 x_1, .int .i64 y_2]) rfl rfl (Nat.le_of_ble_eq_true rfl) ((congrFun (F28_eq _ x_1 y_2) w).mpr h)
theorem F28_call {x_1 : Int} {y_2 : Int} {w : World} {g : Fn W (RTy.leaves (.s (.one .bool)))} (h : F28 (fun v => Back (.s (.one .bool)) g (.returned v)) x_1 y_2 w) : CallT Go.Proofs.Try.prog 28 [.int .i64 x_1, .int .i64 y_2] (.s (.one .bool)) g w := F28_calls h

/-! ## slices.IsSorted[[]int64,int64] -/
def F13_L1 (k : Value → W) (again5 : Option Addr → Nat → Nat → Int → W) (x_3p : Option Addr) (x_3l : Nat) (x_3c : Nat) (i_4 : Int) : W :=
 BIf (decide (i_4 > 0)) (
  Drw <|
  NN x_3p fun a6 =>
  Req (0 ≤ i_4 ∧ i_4 < ((x_3l : Nat) : Int)) <|
  LoadT (.int .i64) (a6.add i_4.toNat) fun x7 =>
  NN x_3p fun a8 =>
  Req (0 ≤ subI .i64 i_4 1 ∧ subI .i64 i_4 1 < ((x_3l : Nat) : Int)) <|
  LoadT (.int .i64) (a8.add ((subI .i64 i_4 1).toNat)) fun x9 =>
  CallT Go.Proofs.Try.prog 28 [.int .i64 x7, .int .i64 x9] (.s (.one .bool)) fun b10 =>
  BIf b10 (
   k (.bool false)) (
   again5 x_3p x_3l x_3c (subI .i64 i_4 1))) (
  k (.bool true))
theorem F13_L1_rule {k : Value → W} (I : Option Addr → Nat → Nat → Int → W) (μ : Option Addr → Nat → Nat → Int → World → Nat)
  (hr : ∀ (x_3p : Option Addr) (x_3l : Nat) (x_3c : Nat) (i_4 : Int) (w : World), I x_3p x_3l x_3c i_4 w → F13_L1 k (fun x_3p' x_3l' x_3c' i_4' w' => I x_3p' x_3l' x_3c' i_4' w' ∧ μ x_3p' x_3l' x_3c' i_4' w' < μ x_3p x_3l x_3c i_4 w) x_3p x_3l x_3c i_4 w)
  {w : World} {x_3p : Option Addr} {x_3l : Nat} {x_3c : Nat} {i_4 : Int} (h : I x_3p x_3l x_3c i_4 w) : Loop [.slice, (.int .i64)] (F13_L1 k) x_3p x_3l x_3c i_4 w :=
  Loop_intro (ts := [.slice, (.int .i64)]) (s := ((x_3p, x_3l, x_3c), i_4, ())) (fun s w => I s.1.1 s.1.2.1 s.1.2.2 s.2.1 w) (fun s w => μ s.1.1 s.1.2.1 s.1.2.2 s.2.1 w) h (fun s w h => hr s.1.1 s.1.2.1 s.1.2.2 s.2.1 w h)
def F13 (k : Value → W) (x_1p : Option Addr) (x_1l : Nat) (x_1c : Nat) : W :=
 Bind (subI .i64 ((x_1l : Nat) : Int) 1 : Int) fun i_2 =>
 Loop [.slice, (.int .i64)] (F13_L1 k) x_1p x_1l x_1c i_2
theorem F13_eq (k : Value → W) (x_1p : Option Addr) (x_1l : Nat) (x_1c : Nat) : compF Go.Proofs.Try.prog Go.Proofs.Try.f13 [(2, [(0, .slice), (3, (.int .i64))])] (Go.Proofs.Try.f13.body.getD .skip) [.slice x_1p x_1l x_1c] k = F13 k x_1p x_1l x_1c := by kernel_rfl
theorem F13_calls {x_1p : Option Addr} {x_1l : Nat} {x_1c : Nat} {w : World} {R : Ending → World → Prop} (h : F13 (fun v w => R (.returned v) w) x_1p x_1l x_1c w) : Calls Go.Proofs.Try.prog 13 #[.slice x_1p x_1l x_1c] w R :=
  calls_of_compF noNum follows [(2, [(0, .slice), (3, (.int .i64))])] (f := 13) (fn := Go.Proofs.Try.f13) (body := Go.Proofs.Try.f13.body.getD .skip) (args := [.slice x_1p x_1l x_1c]) rfl rfl (Nat.le_of_ble_eq_true rfl) ((congrFun (F13_eq _ x_1p x_1l x_1c) w).mpr h)
theorem F13_call {x_1p : Option Addr} {x_1l : Nat} {x_1c : Nat} {w : World} {g : Fn W (RTy.leaves (.s (.one .bool)))} (h : F13 (fun v => Back (.s (.one .bool)) g (.returned v)) x_1p x_1l x_1c w) : CallT Go.Proofs.Try.prog 13 [.slice x_1p x_1l x_1c] (.s (.one .bool)) g w := F13_calls h

/-! ## slices.Equal[[]int64,int64] -/
def F14_L1 (k : Value → W) (again7 : Option Addr → Nat → Nat → Option Addr → Nat → Nat → Int → Int → W) (s1_3p : Option Addr) (s1_3l : Nat) (s1_3c : Nat) (s2_4p : Option Addr) (s2_4l : Nat) (s2_4c : Nat) (x5 : Int) (x6 : Int) : W :=
 BIf (decide (x6 < x5)) (
  Drw <|
  NN s1_3p fun a8 =>
  Req (0 ≤ x6 ∧ x6 < ((s1_3l : Nat) : Int)) <|
  LoadT (.int .i64) (a8.add x6.toNat) fun x9 =>
  NN s2_4p fun a10 =>
  Req (0 ≤ x6 ∧ x6 < ((s2_4l : Nat) : Int)) <|
  LoadT (.int .i64) (a10.add x6.toNat) fun x11 =>
  BIf (x9 != x11) (
   k (.bool false)) (
   again7 s1_3p s1_3l s1_3c s2_4p s2_4l s2_4c x5 (addI .i64 x6 1))) (
  k (.bool true))
theorem F14_L1_rule {k : Value → W} (I : Option Addr → Nat → Nat → Option Addr → Nat → Nat → Int → Int → W) (μ : Option Addr → Nat → Nat → Option Addr → Nat → Nat → Int → Int → World → Nat)
  (hr : ∀ (s1_3p : Option Addr) (s1_3l : Nat) (s1_3c : Nat) (s2_4p : Option Addr) (s2_4l : Nat) (s2_4c : Nat) (x5 : Int) (x6 : Int) (w : World), I s1_3p s1_3l s1_3c s2_4p s2_4l s2_4c x5 x6 w → F14_L1 k (fun s1_3p' s1_3l' s1_3c' s2_4p' s2_4l' s2_4c' x5' x6' w' => I s1_3p' s1_3l' s1_3c' s2_4p' s2_4l' s2_4c' x5' x6' w' ∧ μ s1_3p' s1_3l' s1_3c' s2_4p' s2_4l' s2_4c' x5' x6' w' < μ s1_3p s1_3l s1_3c s2_4p s2_4l s2_4c x5 x6 w) s1_3p s1_3l s1_3c s2_4p s2_4l s2_4c x5 x6 w)
  {w : World} {s1_3p : Option Addr} {s1_3l : Nat} {s1_3c : Nat} {s2_4p : Option Addr} {s2_4l : Nat} {s2_4c : Nat} {x5 : Int} {x6 : Int} (h : I s1_3p s1_3l s1_3c s2_4p s2_4l s2_4c x5 x6 w) : Loop [.slice, .slice, (.int .i64), (.int .i64)] (F14_L1 k) s1_3p s1_3l s1_3c s2_4p s2_4l s2_4c x5 x6 w :=
  Loop_intro (ts := [.slice, .slice, (.int .i64), (.int .i64)]) (s := ((s1_3p, s1_3l, s1_3c), (s2_4p, s2_4l, s2_4c), x5, x6, ())) (fun s w => I s.1.1 s.1.2.1 s.1.2.2 s.2.1.1 s.2.1.2.1 s.2.1.2.2 s.2.2.1 s.2.2.2.1 w) (fun s w => μ s.1.1 s.1.2.1 s.1.2.2 s.2.1.1 s.2.1.2.1 s.2.1.2.2 s.2.2.1 s.2.2.2.1 w) h (fun s w h => hr s.1.1 s.1.2.1 s.1.2.2 s.2.1.1 s.2.1.2.1 s.2.1.2.2 s.2.2.1 s.2.2.2.1 w h)
def F14 (k : Value → W) (s1_1p : Option Addr) (s1_1l : Nat) (s1_1c : Nat) (s2_2p : Option Addr) (s2_2l : Nat) (s2_2c : Nat) : W :=
 BIf (((s1_1l : Nat) : Int) != ((s2_2l : Nat) : Int)) (
  k (.bool false)) (
  Loop [.slice, .slice, (.int .i64), (.int .i64)] (F14_L1 k) s1_1p s1_1l s1_1c s2_2p s2_2l s2_2c ((s1_1l : Nat) : Int) 0)
theorem F14_eq (k : Value → W) (s1_1p : Option Addr) (s1_1l : Nat) (s1_1c : Nat) (s2_2p : Option Addr) (s2_2l : Nat) (s2_2c : Nat) : compF Go.Proofs.Try.prog Go.Proofs.Try.f14 [(4, [(0, .slice), (1, .slice), (12, (.int .i64)), (13, (.int .i64))])] (Go.Proofs.Try.f14.body.getD .skip) [.slice s1_1p s1_1l s1_1c, .slice s2_2p s2_2l s2_2c] k = F14 k s1_1p s1_1l s1_1c s2_2p s2_2l s2_2c := by kernel_rfl
theorem F14_calls {s1_1p : Option Addr} {s1_1l : Nat} {s1_1c : Nat} {s2_2p : Option Addr} {s2_2l : Nat} {s2_2c : Nat} {w : World} {R : Ending → World → Prop} (h : F14 (fun v w => R (.returned v) w) s1_1p s1_1l s1_1c s2_2p s2_2l s2_2c w) : Calls Go.Proofs.Try.prog 14 #[.slice s1_1p s1_1l s1_1c, .slice s2_2p s2_2l s2_2c] w R :=
  calls_of_compF noNum follows [(4, [(0, .slice), (1, .slice), (12, (.int .i64)), (13, (.int .i64))])] (f := 14) (fn := Go.Proofs.Try.f14) (body := Go.Proofs.Try.f14.body.getD .skip) (args := [.slice s1_1p s1_1l s1_1c, .slice s2_2p s2_2l s2_2c]) rfl rfl (Nat.le_of_ble_eq_true rfl) ((congrFun (F14_eq _ s1_1p s1_1l s1_1c s2_2p s2_2l s2_2c) w).mpr h)
theorem F14_call {s1_1p : Option Addr} {s1_1l : Nat} {s1_1c : Nat} {s2_2p : Option Addr} {s2_2l : Nat} {s2_2c : Nat} {w : World} {g : Fn W (RTy.leaves (.s (.one .bool)))} (h : F14 (fun v => Back (.s (.one .bool)) g (.returned v)) s1_1p s1_1l s1_1c s2_2p s2_2l s2_2c w) : CallT Go.Proofs.Try.prog 14 [.slice s1_1p s1_1l s1_1c, .slice s2_2p s2_2l s2_2c] (.s (.one .bool)) g w := F14_calls h

/-! ## laws.FnISTurned -/
def F4 (k : Value → W) (l_1p : Option Addr) (l_1l : Nat) (l_1c : Nat) : W :=
 BIf (decide (((l_1l : Nat) : Int) > 2147483647)) (
  k (.bool true)) (
  CallT Go.Proofs.Try.prog 7 [.slice l_1p l_1l l_1c] (.s (.one .bool)) fun b2 =>
  BIf (!b2) (
   k (.bool true)) (
   CallT Go.Proofs.Try.prog 9 [.slice l_1p l_1l l_1c, .int .i64 0] (.s (.one .slice)) fun s3p s3l s3c =>
   CallT Go.Proofs.Try.prog 8 [.slice s3p s3l s3c] (.s (.one .slice)) fun s4p s4l s4c =>
   CallT Go.Proofs.Try.prog 12 [.slice l_1p l_1l l_1c] (.s (.one .slice)) fun s5p s5l s5c =>
   CallT Go.Proofs.Try.prog 9 [.slice s5p s5l s5c, .int .i64 0] (.s (.one .slice)) fun s6p s6l s6c =>
   CallT Go.Proofs.Try.prog 8 [.slice s6p s6l s6c] (.s (.one .slice)) fun s7p s7l s7c =>
   BIf (((s4l : Nat) : Int) == ((l_1l : Nat) : Int)) (
    CallT Go.Proofs.Try.prog 13 [.slice s4p s4l s4c] (.s (.one .bool)) fun b8 =>
    BIf b8 (
     CallT Go.Proofs.Try.prog 14 [.slice s4p s4l s4c, .slice s7p s7l s7c] (.s (.one .bool)) fun b9 =>
     BIf b9 (
      CallT Go.Proofs.Try.prog 8 [.slice s4p s4l s4c] (.s (.one .slice)) fun s10p s10l s10c =>
      CallT Go.Proofs.Try.prog 14 [.slice s10p s10l s10c, .slice s4p s4l s4c] (.s (.one .bool)) fun b11 =>
      k (.bool b11)) (
      k (.bool false))) (
     k (.bool false))) (
    k (.bool false))))
theorem F4_eq (k : Value → W) (l_1p : Option Addr) (l_1l : Nat) (l_1c : Nat) : compF Go.Proofs.Try.prog Go.Proofs.Try.f4 [] (Go.Proofs.Try.f4.body.getD .skip) [.slice l_1p l_1l l_1c] k = F4 k l_1p l_1l l_1c := by kernel_rfl
theorem F4_calls {l_1p : Option Addr} {l_1l : Nat} {l_1c : Nat} {w : World} {R : Ending → World → Prop} (h : F4 (fun v w => R (.returned v) w) l_1p l_1l l_1c w) : Calls Go.Proofs.Try.prog 4 #[.slice l_1p l_1l l_1c] w R :=
  calls_of_compF noNum follows [] (f := 4) (fn := Go.Proofs.Try.f4) (body := Go.Proofs.Try.f4.body.getD .skip) (args := [.slice l_1p l_1l l_1c]) rfl rfl (Nat.le_of_ble_eq_true rfl) ((congrFun (F4_eq _ l_1p l_1l l_1c) w).mpr h)
theorem F4_call {l_1p : Option Addr} {l_1l : Nat} {l_1c : Nat} {w : World} {g : Fn W (RTy.leaves (.s (.one .bool)))} (h : F4 (fun v => Back (.s (.one .bool)) g (.returned v)) l_1p l_1l l_1c w) : CallT Go.Proofs.Try.prog 4 [.slice l_1p l_1l l_1c] (.s (.one .bool)) g w := F4_calls h

end Go.Proofs.Ytpjjnckgjohaeaa.E
