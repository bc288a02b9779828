/-
  Printed by this session's own program eng.py out of Lean's print of the loaded functions: what each function's body asks, in the engine's words; each is checked against the program by the kernel.
-/
import Derived.Test.YtancdjhojdfejaaEng
import Derived.Test.YtancdjhojdfejaaProg
namespace Go.Proofs.Ytancdjhojdfejaa.E
open Go
set_option linter.unusedVariables false
set_option maxRecDepth 100000
theorem noNum : NoNum Go.Proofs.Try.prog := noNum_of (by kernel_rfl)
theorem follows : (Go.Proofs.Try.prog).follows .mixedOrders = true := by kernel_rfl

/-! ## hilbert.boolToInt -/
def F8 (k : Value → W) (value_1 : Bool) : W :=
 BIf value_1 (
  k (.int .i32 1)) (
  k (.int .i32 0))
theorem F8_eq (k : Value → W) (value_1 : Bool) : compF Go.Proofs.Try.prog Go.Proofs.Try.f8 [] (Go.Proofs.Try.f8.body.getD .skip) [.bool value_1] k = F8 k value_1 := by kernel_rfl
theorem F8_calls {value_1 : Bool} {w : World} {R : Ending → World → Prop} (h : F8 (fun v w => R (.returned v) w) value_1 w) : Calls Go.Proofs.Try.prog 8 #[.bool value_1] w R :=
  calls_of_compF noNum follows [] (f := 8) (fn := Go.Proofs.Try.f8) (body := Go.Proofs.Try.f8.body.getD .skip) (args := [.bool value_1]) rfl rfl (Nat.le_of_ble_eq_true rfl) ((congrFun (F8_eq _ value_1) w).mpr h)
theorem F8_call {value_1 : Bool} {w : World} {g : Fn W (RTy.leaves (.s (.one (.int .i32))))} (h : F8 (fun v => Back (.s (.one (.int .i32))) g (.returned v)) value_1 w) : CallT Go.Proofs.Try.prog 8 [.bool value_1] (.s (.one (.int .i32))) g w := F8_calls h

/-! ## hilbert.rotate -/
def F9_J1 (k : Value → W) (x_12 : Option Addr) (y_13 : Option Addr) : W :=
 NN x_12 fun a14 =>
 LoadT (.int .i32) a14 fun x15 =>
 NN y_13 fun a16 =>
 LoadT (.int .i32) a16 fun x17 =>
 NN x_12 fun a18 =>
 Store1 a18 (.int .i32 x17) <|
 NN y_13 fun a19 =>
 Store1 a19 (.int .i32 x15) <|
 k (.tuple #[])
def F9 (k : Value → W) (n_1 : Int) (rx_2 : Int) (ry_3 : Int) (x_4 : Option Addr) (y_5 : Option Addr) : W :=
 BIf (ry_3 == 0) (
  BIf (rx_2 == 1) (
   NN x_4 fun a6 =>
   LoadT (.int .i32) a6 fun x7 =>
   NN x_4 fun a8 =>
   Store1 a8 (.int .i32 (subI .i32 (subI .i32 n_1 1) x7)) <|
   NN y_5 fun a9 =>
   LoadT (.int .i32) a9 fun x10 =>
   NN y_5 fun a11 =>
   Store1 a11 (.int .i32 (subI .i32 (subI .i32 n_1 1) x10)) <|
   F9_J1 k x_4 y_5) (
   F9_J1 k x_4 y_5)) (
  k (.tuple #[]))
theorem F9_eq (k : Value → W) (n_1 : Int) (rx_2 : Int) (ry_3 : Int) (x_4 : Option Addr) (y_5 : Option Addr) : compF Go.Proofs.Try.prog Go.Proofs.Try.f9 [] (Go.Proofs.Try.f9.body.getD .skip) [.int .i32 n_1, .int .i32 rx_2, .int .i32 ry_3, .pointer x_4, .pointer y_5] k = F9 k n_1 rx_2 ry_3 x_4 y_5 := by kernel_rfl
theorem F9_calls {n_1 : Int} {rx_2 : Int} {ry_3 : Int} {x_4 : Option Addr} {y_5 : Option Addr} {w : World} {R : Ending → World → Prop} (h : F9 (fun v w => R (.returned v) w) n_1 rx_2 ry_3 x_4 y_5 w) : Calls Go.Proofs.Try.prog 9 #[.int .i32 n_1, .int .i32 rx_2, .int .i32 ry_3, .pointer x_4, .pointer y_5] w R :=
  calls_of_compF noNum follows [] (f := 9) (fn := Go.Proofs.Try.f9) (body := Go.Proofs.Try.f9.body.getD .skip) (args := [.int .i32 n_1, .int .i32 rx_2, .int .i32 ry_3, .pointer x_4, .pointer y_5]) rfl rfl (Nat.le_of_ble_eq_true rfl) ((congrFun (F9_eq _ n_1 rx_2 ry_3 x_4 y_5) w).mpr h)
theorem F9_call {n_1 : Int} {rx_2 : Int} {ry_3 : Int} {x_4 : Option Addr} {y_5 : Option Addr} {w : World} {g : Fn W (RTy.leaves (.tup []))} (h : F9 (fun v => Back (.tup []) g (.returned v)) n_1 rx_2 ry_3 x_4 y_5 w) : CallT Go.Proofs.Try.prog 9 [.int .i32 n_1, .int .i32 rx_2, .int .i32 ry_3, .pointer x_4, .pointer y_5] (.tup []) g w := F9_calls h

/-! ## hilbert.Encode -/
def F6_L1 (k : Value → W) (again9 : Addr → Addr → Int → Int → W) (x_5 : Addr) (y_6 : Addr) (d_7 : Int) (s_8 : Int) : W :=
 BIf (decide (s_8 > 0)) (
  LoadT (.int .i32) x_5 fun x10 =>
  CallT Go.Proofs.Try.prog 8 [.bool (decide ((andI .i32 x10 s_8) > 0))] (.s (.one (.int .i32))) fun x11 =>
  LoadT (.int .i32) y_6 fun x12 =>
  CallT Go.Proofs.Try.prog 8 [.bool (decide ((andI .i32 x12 s_8) > 0))] (.s (.one (.int .i32))) fun x13 =>
  Bind (addI .i64 d_7 (mulI .i64 (mulI .i64 (IntKind.wrap .i64 s_8) (IntKind.wrap .i64 s_8)) (IntKind.wrap .i64 (xorI .i32 (mulI .i32 3 x11) x13))) : Int) fun d_14 =>
  CallT Go.Proofs.Try.prog 9 [.int .i32 s_8, .int .i32 x11, .int .i32 x13, .pointer (some x_5), .pointer (some y_6)] (.tup []) <|
  Req (2 ≠ (0 : Int)) <|
  again9 x_5 y_6 d_14 (quoI .i32 s_8 2)) (
  k (.int .i64 d_7))
theorem F6_L1_rule {k : Value → W} (I : Addr → Addr → Int → Int → W) (μ : Addr → Addr → Int → Int → World → Nat)
  (hr : ∀ (x_5 : Addr) (y_6 : Addr) (d_7 : Int) (s_8 : Int) (w : World), I x_5 y_6 d_7 s_8 w → F6_L1 k (fun x_5' y_6' d_7' s_8' w' => I x_5' y_6' d_7' s_8' w' ∧ μ x_5' y_6' d_7' s_8' w' < μ x_5 y_6 d_7 s_8 w) x_5 y_6 d_7 s_8 w)
  {w : World} {x_5 : Addr} {y_6 : Addr} {d_7 : Int} {s_8 : Int} (h : I x_5 y_6 d_7 s_8 w) : Loop [.addr, .addr, (.int .i64), (.int .i32)] (F6_L1 k) x_5 y_6 d_7 s_8 w :=
  Loop_intro (ts := [.addr, .addr, (.int .i64), (.int .i32)]) (s := (x_5, y_6, d_7, s_8, ())) (fun s w => I s.1 s.2.1 s.2.2.1 s.2.2.2.1 w) (fun s w => μ s.1 s.2.1 s.2.2.1 s.2.2.2.1 w) h (fun s w h => hr s.1 s.2.1 s.2.2.1 s.2.2.2.1 w h)
def F6 (k : Value → W) (x_1 : Int) (y_2 : Int) : W :=
 New [.int .i32 x_1] 21 fun n3 =>
 New [.int .i32 y_2] 21 fun n4 =>
 Loop [.addr, .addr, (.int .i64), (.int .i32)] (F6_L1 k) ⟨n3, 0, none⟩ ⟨n4, 0, none⟩ 0 1073741824
theorem F6_eq (k : Value → W) (x_1 : Int) (y_2 : Int) : compF Go.Proofs.Try.prog Go.Proofs.Try.f6 [(4, [(2, .addr), (3, .addr), (7, (.int .i64)), (8, (.int .i32))])] (Go.Proofs.Try.f6.body.getD .skip) [.int .i32 x_1, .int .i32 y_2] k = F6 k x_1 y_2 := by kernel_rfl
theorem F6_calls {x_1 : Int} {y_2 : Int} {w : World} {R : Ending → World → Prop} (h : F6 (fun v w => R (.returned v) w) x_1 y_2 w) : Calls Go.Proofs.Try.prog 6 #[.int .i32 x_1, .int .i32 y_2] w R :=
  calls_of_compF noNum follows [(4, [(2, .addr), (3, .addr), (7, (.int .i64)), (8, (.int .i32))])] (f := 6) (fn := Go.Proofs.Try.f6) (body := Go.Proofs.Try.f6.body.getD .skip) (args := [.int .i32 x_1, .int .i32 y_2]) rfl rfl (Nat.le_of_ble_eq_true rfl) ((congrFun (F6_eq _ x_1 y_2) w).mpr h)
theorem F6_call {x_1 : Int} {y_2 : Int} {w : World} {g : Fn W (RTy.leaves (.s (.one (.int .i64))))} (h : F6 (fun v => Back (.s (.one (.int .i64))) g (.returned v)) x_1 y_2 w) : CallT Go.Proofs.Try.prog 6 [.int .i32 x_1, .int .i32 y_2] (.s (.one (.int .i64))) g w := F6_calls h

/-! ## impl.HLEncode -/
def F4 (k : Value → W) (x_1 : Int) (y_2 : Int) : W :=
 CallT Go.Proofs.Try.prog 6 [.int .i32 x_1, .int .i32 y_2] (.s (.one (.int .i64))) fun x3 =>
 k (.int .i64 x3)
theorem F4_eq (k : Value → W) (x_1 : Int) (y_2 : Int) : compF Go.Proofs.Try.prog Go.Proofs.Try.f4 [] (Go.Proofs.Try.f4.body.getD .skip) [.int .i32 x_1, .int .i32 y_2] k = F4 k x_1 y_2 := by kernel_rfl
theorem F4_calls {x_1 : Int} {y_2 : Int} {w : World} {R : Ending → World → Prop} (h : F4 (fun v w => R (.returned v) w) x_1 y_2 w) : Calls Go.Proofs.Try.prog 4 #[.int .i32 x_1, .int .i32 y_2] w R :=
  calls_of_compF noNum follows [] (f := 4) (fn := Go.Proofs.Try.f4) (body := Go.Proofs.Try.f4.body.getD .skip) (args := [.int .i32 x_1, .int .i32 y_2]) rfl rfl (Nat.le_of_ble_eq_true rfl) ((congrFun (F4_eq _ x_1 y_2) w).mpr h)
theorem F4_call {x_1 : Int} {y_2 : Int} {w : World} {g : Fn W (RTy.leaves (.s (.one (.int .i64))))} (h : F4 (fun v => Back (.s (.one (.int .i64))) g (.returned v)) x_1 y_2 w) : CallT Go.Proofs.Try.prog 4 [.int .i32 x_1, .int .i32 y_2] (.s (.one (.int .i64))) g w := F4_calls h

/-! ## hilbert.Decode -/
def F7_L1 (k : Value → W) (again8 : Addr → Addr → Int → Int → W) (x_4 : Addr) (y_5 : Addr) (t_6 : Int) (s_7 : Int) : W :=
 BIf (decide (s_7 < 2147483648)) (
  Req (2 ≠ (0 : Int)) <|
  Bind (andI .i64 1 (quoI .i64 t_6 2) : Int) fun rx_9 =>
  Bind (andI .i64 1 (xorI .i64 t_6 rx_9) : Int) fun ry_10 =>
  CallT Go.Proofs.Try.prog 9 [.int .i32 (IntKind.wrap .i32 s_7), .int .i32 (IntKind.wrap .i32 rx_9), .int .i32 (IntKind.wrap .i32 ry_10), .pointer (some x_4), .pointer (some y_5)] (.tup []) <|
  LoadT (.int .i32) x_4 fun x11 =>
  Store1 x_4 (.int .i32 (addI .i32 x11 (IntKind.wrap .i32 (mulI .i64 s_7 rx_9)))) <|
  LoadT (.int .i32) y_5 fun x12 =>
  Store1 y_5 (.int .i32 (addI .i32 x12 (IntKind.wrap .i32 (mulI .i64 s_7 ry_10)))) <|
  Req (4 ≠ (0 : Int)) <|
  again8 x_4 y_5 (quoI .i64 t_6 4) (mulI .i64 s_7 2)) (
  Drw <|
  LoadT (.int .i32) x_4 fun x13 =>
  LoadT (.int .i32) y_5 fun x14 =>
  k (.tuple #[.int .i32 x13, .int .i32 x14]))
theorem F7_L1_rule {k : Value → W} (I : Addr → Addr → Int → Int → W) (μ : Addr → Addr → Int → Int → World → Nat)
  (hr : ∀ (x_4 : Addr) (y_5 : Addr) (t_6 : Int) (s_7 : Int) (w : World), I x_4 y_5 t_6 s_7 w → F7_L1 k (fun x_4' y_5' t_6' s_7' w' => I x_4' y_5' t_6' s_7' w' ∧ μ x_4' y_5' t_6' s_7' w' < μ x_4 y_5 t_6 s_7 w) x_4 y_5 t_6 s_7 w)
  {w : World} {x_4 : Addr} {y_5 : Addr} {t_6 : Int} {s_7 : Int} (h : I x_4 y_5 t_6 s_7 w) : Loop [.addr, .addr, (.int .i64), (.int .i64)] (F7_L1 k) x_4 y_5 t_6 s_7 w :=
  Loop_intro (ts := [.addr, .addr, (.int .i64), (.int .i64)]) (s := (x_4, y_5, t_6, s_7, ())) (fun s w => I s.1 s.2.1 s.2.2.1 s.2.2.2.1 w) (fun s w => μ s.1 s.2.1 s.2.2.1 s.2.2.2.1 w) h (fun s w h => hr s.1 s.2.1 s.2.2.1 s.2.2.2.1 w h)
def F7 (k : Value → W) (h_1 : Int) : W :=
 New [.int .i32 0] 21 fun n2 =>
 New [.int .i32 0] 21 fun n3 =>
 Loop [.addr, .addr, (.int .i64), (.int .i64)] (F7_L1 k) ⟨n2, 0, none⟩ ⟨n3, 0, none⟩ h_1 1
theorem F7_eq (k : Value → W) (h_1 : Int) : compF Go.Proofs.Try.prog Go.Proofs.Try.f7 [(5, [(6, .addr), (7, .addr), (8, (.int .i64)), (9, (.int .i64))])] (Go.Proofs.Try.f7.body.getD .skip) [.int .i64 h_1] k = F7 k h_1 := by kernel_rfl
theorem F7_calls {h_1 : Int} {w : World} {R : Ending → World → Prop} (h : F7 (fun v w => R (.returned v) w) h_1 w) : Calls Go.Proofs.Try.prog 7 #[.int .i64 h_1] w R :=
  calls_of_compF noNum follows [(5, [(6, .addr), (7, .addr), (8, (.int .i64)), (9, (.int .i64))])] (f := 7) (fn := Go.Proofs.Try.f7) (body := Go.Proofs.Try.f7.body.getD .skip) (args := [.int .i64 h_1]) rfl rfl (Nat.le_of_ble_eq_true rfl) ((congrFun (F7_eq _ h_1) w).mpr h)
theorem F7_call {h_1 : Int} {w : World} {g : Fn W (RTy.leaves (.tup [(.one (.int .i32)), (.one (.int .i32))]))} (h : F7 (fun v => Back (.tup [(.one (.int .i32)), (.one (.int .i32))]) g (.returned v)) h_1 w) : CallT Go.Proofs.Try.prog 7 [.int .i64 h_1] (.tup [(.one (.int .i32)), (.one (.int .i32))]) g w := F7_calls h

/-! ## impl.HLDecode -/
def F5 (k : Value → W) (h_1 : Int) : W :=
 CallT Go.Proofs.Try.prog 7 [.int .i64 h_1] (.tup [(.one (.int .i32)), (.one (.int .i32))]) fun x2 x3 =>
 k (.tuple #[.int .i32 x2, .int .i32 x3])
theorem F5_eq (k : Value → W) (h_1 : Int) : compF Go.Proofs.Try.prog Go.Proofs.Try.f5 [] (Go.Proofs.Try.f5.body.getD .skip) [.int .i64 h_1] k = F5 k h_1 := by kernel_rfl
theorem F5_calls {h_1 : Int} {w : World} {R : Ending → World → Prop} (h : F5 (fun v w => R (.returned v) w) h_1 w) : Calls Go.Proofs.Try.prog 5 #[.int .i64 h_1] w R :=
  calls_of_compF noNum follows [] (f := 5) (fn := Go.Proofs.Try.f5) (body := Go.Proofs.Try.f5.body.getD .skip) (args := [.int .i64 h_1]) rfl rfl (Nat.le_of_ble_eq_true rfl) ((congrFun (F5_eq _ h_1) w).mpr h)
theorem F5_call {h_1 : Int} {w : World} {g : Fn W (RTy.leaves (.tup [(.one (.int .i32)), (.one (.int .i32))]))} (h : F5 (fun v => Back (.tup [(.one (.int .i32)), (.one (.int .i32))]) g (.returned v)) h_1 w) : CallT Go.Proofs.Try.prog 5 [.int .i64 h_1] (.tup [(.one (.int .i32)), (.one (.int .i32))]) g w := F5_calls h

/-! ## laws.FnHLTurned -/
def F3 (k : Value → W) (x_1 : Int) (y_2 : Int) (k_3 : Int) : W :=
 Req (15 ≠ (0 : Int)) <|
 Bind (mulI .u64 2 (addI .u64 1 (remI (IntKind.wrap .u64 k_3) 15)) : Int) fun s_4 =>
 Drw <|
 Req (0 ≤ s_4) <|
 Req (shlI .u32 1 s_4.toNat ≠ (0 : Int)) <|
 Req (0 ≤ s_4) <|
 Req (shlI .u32 1 s_4.toNat ≠ (0 : Int)) <|
 Bind (IntKind.wrap .i32 (remI x_1 (shlI .u32 1 s_4.toNat)) : Int) fun a_5 =>
 Bind (IntKind.wrap .i32 (remI y_2 (shlI .u32 1 s_4.toNat)) : Int) fun b_6 =>
 CallT Go.Proofs.Try.prog 4 [.int .i32 a_5, .int .i32 b_6] (.s (.one (.int .i64))) fun x7 =>
 Req (0 ≤ mulI .u64 2 s_4) <|
 BIf (decide (x7 ≥ (shlI .i64 1 (mulI .u64 2 s_4).toNat))) (
  k (.bool false)) (
  CallT Go.Proofs.Try.prog 4 [.int .i32 b_6, .int .i32 a_5] (.s (.one (.int .i64))) fun x8 =>
  Req (0 ≤ mulI .u64 2 s_4) <|
  BIf (decide (x8 ≥ (shlI .i64 1 (mulI .u64 2 s_4).toNat))) (
   k (.bool false)) (
   CallT Go.Proofs.Try.prog 4 [.int .i32 b_6, .int .i32 a_5] (.s (.one (.int .i64))) fun x9 =>
   CallT Go.Proofs.Try.prog 5 [.int .i64 x9] (.tup [(.one (.int .i32)), (.one (.int .i32))]) fun x10 x11 =>
   Req (0 ≤ mulI .u64 2 s_4) <|
   CallT Go.Proofs.Try.prog 5 [.int .i64 (subI .i64 (shlI .i64 1 (mulI .u64 2 s_4).toNat) 1)] (.tup [(.one (.int .i32)), (.one (.int .i32))]) fun x12 x13 =>
   BIf (x10 == b_6) (
    BIf (x11 == a_5) (
     BIf (x12 == 0) (
      Req (0 ≤ s_4) <|
      BIf (x13 == (subI .i32 (shlI .i32 1 s_4.toNat) 1)) (
       k (.bool true)) (
       BIf (x13 == 0) (
        Req (0 ≤ s_4) <|
        Bind (x12 == (subI .i32 (shlI .i32 1 s_4.toNat) 1)) fun y14 =>
        k (.bool y14)) (
        k (.bool false)))) (
      BIf (x13 == 0) (
       Req (0 ≤ s_4) <|
       Bind (x12 == (subI .i32 (shlI .i32 1 s_4.toNat) 1)) fun y15 =>
       k (.bool y15)) (
       k (.bool false)))) (
     k (.bool false))) (
    k (.bool false))))
theorem F3_eq (k : Value → W) (x_1 : Int) (y_2 : Int) (k_3 : Int) : compF Go.Proofs.Try.prog Go.Proofs.Try.f3 [] (Go.Proofs.Try.f3.body.getD .skip) [.int .u32 x_1, .int .u32 y_2, .int .u8 k_3] k = F3 k x_1 y_2 k_3 := by kernel_rfl
theorem F3_calls {x_1 : Int} {y_2 : Int} {k_3 : Int} {w : World} {R : Ending → World → Prop} (h : F3 (fun v w => R (.returned v) w) x_1 y_2 k_3 w) : Calls Go.Proofs.Try.prog 3 #[.int .u32 x_1, .int .u32 y_2, .int .u8 k_3] w R :=
  calls_of_compF noNum follows [] (f := 3) (fn := Go.Proofs.Try.f3) (body := Go.Proofs.Try.f3.body.getD .skip) (args := [.int .u32 x_1, .int .u32 y_2, .int .u8 k_3]) rfl rfl (Nat.le_of_ble_eq_true rfl) ((congrFun (F3_eq _ x_1 y_2 k_3) w).mpr h)
theorem F3_call {x_1 : Int} {y_2 : Int} {k_3 : Int} {w : World} {g : Fn W (RTy.leaves (.s (.one .bool)))} (h : F3 (fun v => Back (.s (.one .bool)) g (.returned v)) x_1 y_2 k_3 w) : CallT Go.Proofs.Try.prog 3 [.int .u32 x_1, .int .u32 y_2, .int .u8 k_3] (.s (.one .bool)) g w := F3_calls h

end Go.Proofs.Ytancdjhojdfejaa.E
