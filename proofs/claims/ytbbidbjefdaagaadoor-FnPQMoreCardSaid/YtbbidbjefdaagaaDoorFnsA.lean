/-
  Printed by this session's own program eng.py out of Lean's print of the loaded functions: what each function's body asks, in the engine's words; each is checked against the program by the kernel.
-/
import Derived.Test.YtbbidbjefdaagaaDoorEng
import Derived.Test.YtbbidbjefdaagaaDoorProg
namespace Go.Proofs.YtbbidbjefdaagaaDoor.E
open Go
set_option linter.unusedVariables false
set_option maxRecDepth 100000
theorem noNum : NoNum Go.Proofs.Tryd.prog := noNum_of (by kernel_rfl)
theorem follows : (Go.Proofs.Tryd.prog).follows .mixedOrders = true := by kernel_rfl

/-! ## queue.PriorityQueue).Get$1 -/
def F47_L1 (k : Value → W) (again7 : Addr → Option Addr → Nat → Nat → Int → Int → W) (a3 : Addr) (s4p : Option Addr) (s4l : Nat) (s4c : Nat) (x5 : Int) (x6 : Int) : W :=
 BIf (decide (x6 < x5)) (
  NN s4p fun a8 =>
  Req (0 ≤ x6 ∧ x6 < ((s4l : Nat) : Int)) <|
  LoadT .any (a8.add x6.toNat) fun v9 =>
  LoadT .ptr a3 fun p10 =>
  NN p10 fun a11 =>
  LoadT .map (a11.add 1) fun m12 =>
  NextT Go.Proofs.Tryd.prog (builtin .delete #[68, 81] 0 [false, false].toArray [.map m12, v9].toArray) (.tup []) <|
  again7 a3 s4p s4l s4c x5 (addI .i64 x6 1)) (
  k (.tuple #[]))
theorem F47_L1_rule {k : Value → W} (I : Addr → Option Addr → Nat → Nat → Int → Int → W) (μ : Addr → Option Addr → Nat → Nat → Int → Int → World → Nat)
  (hr : ∀ (a3 : Addr) (s4p : Option Addr) (s4l : Nat) (s4c : Nat) (x5 : Int) (x6 : Int) (w : World), I a3 s4p s4l s4c x5 x6 w → F47_L1 k (fun a3' s4p' s4l' s4c' x5' x6' w' => I a3' s4p' s4l' s4c' x5' x6' w' ∧ μ a3' s4p' s4l' s4c' x5' x6' w' < μ a3 s4p s4l s4c x5 x6 w) a3 s4p s4l s4c x5 x6 w)
  {w : World} {a3 : Addr} {s4p : Option Addr} {s4l : Nat} {s4c : Nat} {x5 : Int} {x6 : Int} (h : I a3 s4p s4l s4c x5 x6 w) : Loop [.addr, .slice, (.int .i64), (.int .i64)] (F47_L1 k) a3 s4p s4l s4c x5 x6 w :=
  Loop_intro (ts := [.addr, .slice, (.int .i64), (.int .i64)]) (s := (a3, (s4p, s4l, s4c), x5, x6, ())) (fun s w => I s.1 s.2.1.1 s.2.1.2.1 s.2.1.2.2 s.2.2.1 s.2.2.2.1 w) (fun s w => μ s.1 s.2.1.1 s.2.1.2.1 s.2.1.2.2 s.2.2.1 s.2.2.2.1 w) h (fun s w h => hr s.1 s.2.1.1 s.2.1.2.1 s.2.1.2.2 s.2.2.1 s.2.2.2.1 w h)
def F47 (k : Value → W) (items_1p : Option Addr) (items_1l : Nat) (items_1c : Nat) (a2 : Addr) : W :=
 Loop [.addr, .slice, (.int .i64), (.int .i64)] (F47_L1 k) a2 items_1p items_1l items_1c ((items_1l : Nat) : Int) 0
theorem F47_eq (k : Value → W) (items_1p : Option Addr) (items_1l : Nat) (items_1c : Nat) (a2 : Addr) : compF Go.Proofs.Tryd.prog Go.Proofs.Tryd.f47 [(1, [(1, .addr), (5, .slice), (6, (.int .i64)), (7, (.int .i64))])] (Go.Proofs.Tryd.f47.body.getD .skip) [.slice items_1p items_1l items_1c, .pointer (some a2)] k = F47 k items_1p items_1l items_1c a2 := by kernel_rfl
theorem F47_calls {items_1p : Option Addr} {items_1l : Nat} {items_1c : Nat} {a2 : Addr} {w : World} {R : Ending → World → Prop} (h : F47 (fun v w => R (.returned v) w) items_1p items_1l items_1c a2 w) : Calls Go.Proofs.Tryd.prog 47 #[.slice items_1p items_1l items_1c, .pointer (some a2)] w R :=
  calls_of_compF noNum follows [(1, [(1, .addr), (5, .slice), (6, (.int .i64)), (7, (.int .i64))])] (f := 47) (fn := Go.Proofs.Tryd.f47) (body := Go.Proofs.Tryd.f47.body.getD .skip) (args := [.slice items_1p items_1l items_1c, .pointer (some a2)]) rfl rfl (Nat.le_of_ble_eq_true rfl) ((congrFun (F47_eq _ items_1p items_1l items_1c a2) w).mpr h)
theorem F47_call {items_1p : Option Addr} {items_1l : Nat} {items_1c : Nat} {a2 : Addr} {w : World} {g : Fn W (RTy.leaves (.tup []))} (h : F47 (fun v => Back (.tup []) g (.returned v)) items_1p items_1l items_1c a2 w) : CallT Go.Proofs.Tryd.prog 47 [.slice items_1p items_1l items_1c, .pointer (some a2)] (.tup []) g w := F47_calls h

/-! ## impl.pqItem).Compare -/
def F67 (k : Value → W) (x1 : Int) (x2 : Int) (other_3 : Value) : W :=
 New [.int .i64 x1, .int .i64 x2] 72 fun n4 =>
 Drw <|
 LoadT (.int .i64) ⟨n4, 0, none⟩ fun x5 =>
 TAs other_3 72 (.s (.agg [(.int .i64), (.int .i64)])) fun x6 x7 =>
 CallT Go.Proofs.Tryd.prog 68 [.int .i64 x5, .int .i64 x6] (.s (.one (.int .i64))) fun x8 =>
 k (.int .i64 x8)
theorem F67_eq (k : Value → W) (x1 : Int) (x2 : Int) (other_3 : Value) : compF Go.Proofs.Tryd.prog Go.Proofs.Tryd.f67 [] (Go.Proofs.Tryd.f67.body.getD .skip) [.agg #[.int .i64 x1, .int .i64 x2], other_3] k = F67 k x1 x2 other_3 := by kernel_rfl
theorem F67_calls {x1 : Int} {x2 : Int} {other_3 : Value} {w : World} {R : Ending → World → Prop} (h : F67 (fun v w => R (.returned v) w) x1 x2 other_3 w) : Calls Go.Proofs.Tryd.prog 67 #[.agg #[.int .i64 x1, .int .i64 x2], other_3] w R :=
  calls_of_compF noNum follows [] (f := 67) (fn := Go.Proofs.Tryd.f67) (body := Go.Proofs.Tryd.f67.body.getD .skip) (args := [.agg #[.int .i64 x1, .int .i64 x2], other_3]) rfl rfl (Nat.le_of_ble_eq_true rfl) ((congrFun (F67_eq _ x1 x2 other_3) w).mpr h)
theorem F67_call {x1 : Int} {x2 : Int} {other_3 : Value} {w : World} {g : Fn W (RTy.leaves (.s (.one (.int .i64))))} (h : F67 (fun v => Back (.s (.one (.int .i64))) g (.returned v)) x1 x2 other_3 w) : CallT Go.Proofs.Tryd.prog 67 [.agg #[.int .i64 x1, .int .i64 x2], other_3] (.s (.one (.int .i64))) g w := F67_calls h

/-! ## impl.order -/
def F68 (k : Value → W) (a_1 : Int) (b_2 : Int) : W :=
 BIf (decide (a_1 < b_2)) (
  k (.int .i64 (-1))) (
  BIf (decide (a_1 > b_2)) (
   k (.int .i64 1)) (
   k (.int .i64 0)))
theorem F68_eq (k : Value → W) (a_1 : Int) (b_2 : Int) : compF Go.Proofs.Tryd.prog Go.Proofs.Tryd.f68 [] (Go.Proofs.Tryd.f68.body.getD .skip) [.int .i64 a_1, .int .i64 b_2] k = F68 k a_1 b_2 := by kernel_rfl
theorem F68_calls {a_1 : Int} {b_2 : Int} {w : World} {R : Ending → World → Prop} (h : F68 (fun v w => R (.returned v) w) a_1 b_2 w) : Calls Go.Proofs.Tryd.prog 68 #[.int .i64 a_1, .int .i64 b_2] w R :=
  calls_of_compF noNum follows [] (f := 68) (fn := Go.Proofs.Tryd.f68) (body := Go.Proofs.Tryd.f68.body.getD .skip) (args := [.int .i64 a_1, .int .i64 b_2]) rfl rfl (Nat.le_of_ble_eq_true rfl) ((congrFun (F68_eq _ a_1 b_2) w).mpr h)
theorem F68_call {a_1 : Int} {b_2 : Int} {w : World} {g : Fn W (RTy.leaves (.s (.one (.int .i64))))} (h : F68 (fun v => Back (.s (.one (.int .i64))) g (.returned v)) a_1 b_2 w) : CallT Go.Proofs.Tryd.prog 68 [.int .i64 a_1, .int .i64 b_2] (.s (.one (.int .i64))) g w := F68_calls h

/-! ## laws.dxFew -/
def F5 (k : Value → W) (l_1p : Option Addr) (l_1l : Nat) (l_1c : Nat) : W :=
 BIf (decide (((l_1l : Nat) : Int) > 0)) (
  Bind (decide (((l_1l : Nat) : Int) ≤ 30)) fun y2 =>
  k (.bool y2)) (
  k (.bool false))
theorem F5_eq (k : Value → W) (l_1p : Option Addr) (l_1l : Nat) (l_1c : Nat) : compF Go.Proofs.Tryd.prog Go.Proofs.Tryd.f5 [] (Go.Proofs.Tryd.f5.body.getD .skip) [.slice l_1p l_1l l_1c] k = F5 k l_1p l_1l l_1c := by kernel_rfl
theorem F5_calls {l_1p : Option Addr} {l_1l : Nat} {l_1c : Nat} {w : World} {R : Ending → World → Prop} (h : F5 (fun v w => R (.returned v) w) l_1p l_1l l_1c w) : Calls Go.Proofs.Tryd.prog 5 #[.slice l_1p l_1l l_1c] w R :=
  calls_of_compF noNum follows [] (f := 5) (fn := Go.Proofs.Tryd.f5) (body := Go.Proofs.Tryd.f5.body.getD .skip) (args := [.slice l_1p l_1l l_1c]) rfl rfl (Nat.le_of_ble_eq_true rfl) ((congrFun (F5_eq _ l_1p l_1l l_1c) w).mpr h)
theorem F5_call {l_1p : Option Addr} {l_1l : Nat} {l_1c : Nat} {w : World} {g : Fn W (RTy.leaves (.s (.one .bool)))} (h : F5 (fun v => Back (.s (.one .bool)) g (.returned v)) l_1p l_1l l_1c w) : CallT Go.Proofs.Tryd.prog 5 [.slice l_1p l_1l l_1c] (.s (.one .bool)) g w := F5_calls h

/-! ## laws.dxItems -/
def F6_L1 (k : Value → W) (again8 : Int → Option Addr → Nat → Nat → Option Addr → Nat → Nat → Int → Int → W) (by_3 : Int) (out_4p : Option Addr) (out_4l : Nat) (out_4c : Nat) (s5p : Option Addr) (s5l : Nat) (s5c : Nat) (x6 : Int) (x7 : Int) : W :=
 BIf (decide (x7 < x6)) (
  NN s5p fun a9 =>
  Req (0 ≤ x7 ∧ x7 < ((s5l : Nat) : Int)) <|
  LoadT (.int .i16) (a9.add x7.toNat) fun x10 =>
  RawT Go.Proofs.Tryd.prog (Instr.buildSlice 25 1 [(0, .agg #[.int .i64 (addI .i64 (IntKind.wrap .i64 x10) by_3), .int .i64 x7])].toArray) (.s (.one .slice)) fun s11p s11l s11c =>
  NextT Go.Proofs.Tryd.prog (builtin .append #[25, 25] 25 [false, false].toArray [.slice out_4p out_4l out_4c, .slice s11p s11l s11c].toArray) (.s (.one .slice)) fun s12p s12l s12c =>
  again8 by_3 s12p s12l s12c s5p s5l s5c x6 (addI .i64 x7 1)) (
  k (.slice out_4p out_4l out_4c))
theorem F6_L1_rule {k : Value → W} (I : Int → Option Addr → Nat → Nat → Option Addr → Nat → Nat → Int → Int → W) (μ : Int → Option Addr → Nat → Nat → Option Addr → Nat → Nat → Int → Int → World → Nat)
  (hr : ∀ (by_3 : Int) (out_4p : Option Addr) (out_4l : Nat) (out_4c : Nat) (s5p : Option Addr) (s5l : Nat) (s5c : Nat) (x6 : Int) (x7 : Int) (w : World), I by_3 out_4p out_4l out_4c s5p s5l s5c x6 x7 w → F6_L1 k (fun by_3' out_4p' out_4l' out_4c' s5p' s5l' s5c' x6' x7' w' => I by_3' out_4p' out_4l' out_4c' s5p' s5l' s5c' x6' x7' w' ∧ μ by_3' out_4p' out_4l' out_4c' s5p' s5l' s5c' x6' x7' w' < μ by_3 out_4p out_4l out_4c s5p s5l s5c x6 x7 w) by_3 out_4p out_4l out_4c s5p s5l s5c x6 x7 w)
  {w : World} {by_3 : Int} {out_4p : Option Addr} {out_4l : Nat} {out_4c : Nat} {s5p : Option Addr} {s5l : Nat} {s5c : Nat} {x6 : Int} {x7 : Int} (h : I by_3 out_4p out_4l out_4c s5p s5l s5c x6 x7 w) : Loop [(.int .i64), .slice, .slice, (.int .i64), (.int .i64)] (F6_L1 k) by_3 out_4p out_4l out_4c s5p s5l s5c x6 x7 w :=
  Loop_intro (ts := [(.int .i64), .slice, .slice, (.int .i64), (.int .i64)]) (s := (by_3, (out_4p, out_4l, out_4c), (s5p, s5l, s5c), x6, x7, ())) (fun s w => I s.1 s.2.1.1 s.2.1.2.1 s.2.1.2.2 s.2.2.1.1 s.2.2.1.2.1 s.2.2.1.2.2 s.2.2.2.1 s.2.2.2.2.1 w) (fun s w => μ s.1 s.2.1.1 s.2.1.2.1 s.2.1.2.2 s.2.2.1.1 s.2.2.1.2.1 s.2.2.1.2.2 s.2.2.2.1 s.2.2.2.2.1 w) h (fun s w h => hr s.1 s.2.1.1 s.2.1.2.1 s.2.1.2.2 s.2.2.1.1 s.2.2.1.2.1 s.2.2.1.2.2 s.2.2.2.1 s.2.2.2.2.1 w h)
def F6 (k : Value → W) (l_1p : Option Addr) (l_1l : Nat) (l_1c : Nat) (by_2 : Int) : W :=
 Loop [(.int .i64), .slice, .slice, (.int .i64), (.int .i64)] (F6_L1 k) by_2 none 0 0 l_1p l_1l l_1c ((l_1l : Nat) : Int) 0
theorem F6_eq (k : Value → W) (l_1p : Option Addr) (l_1l : Nat) (l_1c : Nat) (by_2 : Int) : compF Go.Proofs.Tryd.prog Go.Proofs.Tryd.f6 [(3, [(1, (.int .i64)), (5, .slice), (8, .slice), (9, (.int .i64)), (10, (.int .i64))])] (Go.Proofs.Tryd.f6.body.getD .skip) [.slice l_1p l_1l l_1c, .int .i64 by_2] k = F6 k l_1p l_1l l_1c by_2 := by kernel_rfl
theorem F6_calls {l_1p : Option Addr} {l_1l : Nat} {l_1c : Nat} {by_2 : Int} {w : World} {R : Ending → World → Prop} (h : F6 (fun v w => R (.returned v) w) l_1p l_1l l_1c by_2 w) : Calls Go.Proofs.Tryd.prog 6 #[.slice l_1p l_1l l_1c, .int .i64 by_2] w R :=
  calls_of_compF noNum follows [(3, [(1, (.int .i64)), (5, .slice), (8, .slice), (9, (.int .i64)), (10, (.int .i64))])] (f := 6) (fn := Go.Proofs.Tryd.f6) (body := Go.Proofs.Tryd.f6.body.getD .skip) (args := [.slice l_1p l_1l l_1c, .int .i64 by_2]) rfl rfl (Nat.le_of_ble_eq_true rfl) ((congrFun (F6_eq _ l_1p l_1l l_1c by_2) w).mpr h)
theorem F6_call {l_1p : Option Addr} {l_1l : Nat} {l_1c : Nat} {by_2 : Int} {w : World} {g : Fn W (RTy.leaves (.s (.one .slice)))} (h : F6 (fun v => Back (.s (.one .slice)) g (.returned v)) l_1p l_1l l_1c by_2 w) : CallT Go.Proofs.Tryd.prog 6 [.slice l_1p l_1l l_1c, .int .i64 by_2] (.s (.one .slice)) g w := F6_calls h

/-! ## impl.PQStep] -/
def F15 (k : Value → W) (s_1p : Option Addr) (s_1l : Nat) (s_1c : Nat) : W :=
 BIf s_1p.isNone (
  k (.slice none 0 0)) (
  RawT Go.Proofs.Tryd.prog (Instr.buildSlice 33 0 [].toArray) (.s (.one .slice)) fun s2p s2l s2c =>
  NextT Go.Proofs.Tryd.prog (builtin .append #[33, 33] 33 [false, false].toArray [.slice s2p s2l s2c, .slice s_1p s_1l s_1c].toArray) (.s (.one .slice)) fun s3p s3l s3c =>
  k (.slice s3p s3l s3c))
theorem F15_eq (k : Value → W) (s_1p : Option Addr) (s_1l : Nat) (s_1c : Nat) : compF Go.Proofs.Tryd.prog Go.Proofs.Tryd.f15 [] (Go.Proofs.Tryd.f15.body.getD .skip) [.slice s_1p s_1l s_1c] k = F15 k s_1p s_1l s_1c := by kernel_rfl
theorem F15_calls {s_1p : Option Addr} {s_1l : Nat} {s_1c : Nat} {w : World} {R : Ending → World → Prop} (h : F15 (fun v w => R (.returned v) w) s_1p s_1l s_1c w) : Calls Go.Proofs.Tryd.prog 15 #[.slice s_1p s_1l s_1c] w R :=
  calls_of_compF noNum follows [] (f := 15) (fn := Go.Proofs.Tryd.f15) (body := Go.Proofs.Tryd.f15.body.getD .skip) (args := [.slice s_1p s_1l s_1c]) rfl rfl (Nat.le_of_ble_eq_true rfl) ((congrFun (F15_eq _ s_1p s_1l s_1c) w).mpr h)
theorem F15_call {s_1p : Option Addr} {s_1l : Nat} {s_1c : Nat} {w : World} {g : Fn W (RTy.leaves (.s (.one .slice)))} (h : F15 (fun v => Back (.s (.one .slice)) g (.returned v)) s_1p s_1l s_1c w) : CallT Go.Proofs.Tryd.prog 15 [.slice s_1p s_1l s_1c] (.s (.one .slice)) g w := F15_calls h

/-! ## laws.dxTakes -/
def F10 (k : Value → W) (l_1p : Option Addr) (l_1l : Nat) (l_1c : Nat) (n_2 : Int) : W :=
 CallT Go.Proofs.Tryd.prog 15 [.slice l_1p l_1l l_1c] (.s (.one .slice)) fun s3p s3l s3c =>
 RawT Go.Proofs.Tryd.prog (Instr.buildSlice 33 1 [(0, .agg #[.int .i64 2, .int .i64 n_2, .slice none 0 0])].toArray) (.s (.one .slice)) fun s4p s4l s4c =>
 NextT Go.Proofs.Tryd.prog (builtin .append #[33, 33] 33 [false, false].toArray [.slice s3p s3l s3c, .slice s4p s4l s4c].toArray) (.s (.one .slice)) fun s5p s5l s5c =>
 k (.slice s5p s5l s5c)
theorem F10_eq (k : Value → W) (l_1p : Option Addr) (l_1l : Nat) (l_1c : Nat) (n_2 : Int) : compF Go.Proofs.Tryd.prog Go.Proofs.Tryd.f10 [] (Go.Proofs.Tryd.f10.body.getD .skip) [.slice l_1p l_1l l_1c, .int .i64 n_2] k = F10 k l_1p l_1l l_1c n_2 := by kernel_rfl
theorem F10_calls {l_1p : Option Addr} {l_1l : Nat} {l_1c : Nat} {n_2 : Int} {w : World} {R : Ending → World → Prop} (h : F10 (fun v w => R (.returned v) w) l_1p l_1l l_1c n_2 w) : Calls Go.Proofs.Tryd.prog 10 #[.slice l_1p l_1l l_1c, .int .i64 n_2] w R :=
  calls_of_compF noNum follows [] (f := 10) (fn := Go.Proofs.Tryd.f10) (body := Go.Proofs.Tryd.f10.body.getD .skip) (args := [.slice l_1p l_1l l_1c, .int .i64 n_2]) rfl rfl (Nat.le_of_ble_eq_true rfl) ((congrFun (F10_eq _ l_1p l_1l l_1c n_2) w).mpr h)
theorem F10_call {l_1p : Option Addr} {l_1l : Nat} {l_1c : Nat} {n_2 : Int} {w : World} {g : Fn W (RTy.leaves (.s (.one .slice)))} (h : F10 (fun v => Back (.s (.one .slice)) g (.returned v)) l_1p l_1l l_1c n_2 w) : CallT Go.Proofs.Tryd.prog 10 [.slice l_1p l_1l l_1c, .int .i64 n_2] (.s (.one .slice)) g w := F10_calls h

/-! ## laws.dxPuts -/
def F11_L1 (k : Value → W) (again6 : Option Addr → Nat → Nat → Int → Option Addr → Nat → Nat → W) (l_3p : Option Addr) (l_3l : Nat) (l_3c : Nat) (most_4 : Int) (out_5p : Option Addr) (out_5l : Nat) (out_5c : Nat) : W :=
 BIf (decide (((l_3l : Nat) : Int) > 0)) (
  NextT Go.Proofs.Tryd.prog (builtin .min #[3, 3] 3 [false, false].toArray [.int .i64 most_4, .int .i64 ((l_3l : Nat) : Int)].toArray) (.s (.one (.int .i64))) fun x7 =>
  Req (0 ≤ x7 ∧ x7 ≤ ((l_3c : Nat) : Int)) <|
  RawT Go.Proofs.Tryd.prog (Instr.buildSlice 33 1 [(0, .agg #[.int .i64 1, .int .i64 0, .slice (sliceA l_3p 0 l_3c 2) (x7.toNat - 0) (l_3c - 0)])].toArray) (.s (.one .slice)) fun s8p s8l s8c =>
  NextT Go.Proofs.Tryd.prog (builtin .append #[33, 33] 33 [false, false].toArray [.slice out_5p out_5l out_5c, .slice s8p s8l s8c].toArray) (.s (.one .slice)) fun s9p s9l s9c =>
  Req (0 ≤ x7 ∧ x7 ≤ ((l_3l : Nat) : Int)) <|
  again6 (sliceA l_3p x7.toNat l_3c 2) (l_3l - x7.toNat) (l_3c - x7.toNat) most_4 s9p s9l s9c) (
  k (.slice out_5p out_5l out_5c))
theorem F11_L1_rule {k : Value → W} (I : Option Addr → Nat → Nat → Int → Option Addr → Nat → Nat → W) (μ : Option Addr → Nat → Nat → Int → Option Addr → Nat → Nat → World → Nat)
  (hr : ∀ (l_3p : Option Addr) (l_3l : Nat) (l_3c : Nat) (most_4 : Int) (out_5p : Option Addr) (out_5l : Nat) (out_5c : Nat) (w : World), I l_3p l_3l l_3c most_4 out_5p out_5l out_5c w → F11_L1 k (fun l_3p' l_3l' l_3c' most_4' out_5p' out_5l' out_5c' w' => I l_3p' l_3l' l_3c' most_4' out_5p' out_5l' out_5c' w' ∧ μ l_3p' l_3l' l_3c' most_4' out_5p' out_5l' out_5c' w' < μ l_3p l_3l l_3c most_4 out_5p out_5l out_5c w) l_3p l_3l l_3c most_4 out_5p out_5l out_5c w)
  {w : World} {l_3p : Option Addr} {l_3l : Nat} {l_3c : Nat} {most_4 : Int} {out_5p : Option Addr} {out_5l : Nat} {out_5c : Nat} (h : I l_3p l_3l l_3c most_4 out_5p out_5l out_5c w) : Loop [.slice, (.int .i64), .slice] (F11_L1 k) l_3p l_3l l_3c most_4 out_5p out_5l out_5c w :=
  Loop_intro (ts := [.slice, (.int .i64), .slice]) (s := ((l_3p, l_3l, l_3c), most_4, (out_5p, out_5l, out_5c), ())) (fun s w => I s.1.1 s.1.2.1 s.1.2.2 s.2.1 s.2.2.1.1 s.2.2.1.2.1 s.2.2.1.2.2 w) (fun s w => μ s.1.1 s.1.2.1 s.1.2.2 s.2.1 s.2.2.1.1 s.2.2.1.2.1 s.2.2.1.2.2 w) h (fun s w h => hr s.1.1 s.1.2.1 s.1.2.2 s.2.1 s.2.2.1.1 s.2.2.1.2.1 s.2.2.1.2.2 w h)
def F11 (k : Value → W) (l_1p : Option Addr) (l_1l : Nat) (l_1c : Nat) (most_2 : Int) : W :=
 Loop [.slice, (.int .i64), .slice] (F11_L1 k) l_1p l_1l l_1c most_2 none 0 0
theorem F11_eq (k : Value → W) (l_1p : Option Addr) (l_1l : Nat) (l_1c : Nat) (most_2 : Int) : compF Go.Proofs.Tryd.prog Go.Proofs.Tryd.f11 [(2, [(0, .slice), (1, (.int .i64)), (5, .slice)])] (Go.Proofs.Tryd.f11.body.getD .skip) [.slice l_1p l_1l l_1c, .int .i64 most_2] k = F11 k l_1p l_1l l_1c most_2 := by kernel_rfl
theorem F11_calls {l_1p : Option Addr} {l_1l : Nat} {l_1c : Nat} {most_2 : Int} {w : World} {R : Ending → World → Prop} (h : F11 (fun v w => R (.returned v) w) l_1p l_1l l_1c most_2 w) : Calls Go.Proofs.Tryd.prog 11 #[.slice l_1p l_1l l_1c, .int .i64 most_2] w R :=
  calls_of_compF noNum follows [(2, [(0, .slice), (1, (.int .i64)), (5, .slice)])] (f := 11) (fn := Go.Proofs.Tryd.f11) (body := Go.Proofs.Tryd.f11.body.getD .skip) (args := [.slice l_1p l_1l l_1c, .int .i64 most_2]) rfl rfl (Nat.le_of_ble_eq_true rfl) ((congrFun (F11_eq _ l_1p l_1l l_1c most_2) w).mpr h)
theorem F11_call {l_1p : Option Addr} {l_1l : Nat} {l_1c : Nat} {most_2 : Int} {w : World} {g : Fn W (RTy.leaves (.s (.one .slice)))} (h : F11 (fun v => Back (.s (.one .slice)) g (.returned v)) l_1p l_1l l_1c most_2 w) : CallT Go.Proofs.Tryd.prog 11 [.slice l_1p l_1l l_1c, .int .i64 most_2] (.s (.one .slice)) g w := F11_calls h

/-! ## queue.NewPriorityQueue -/
def F19 (k : Value → W) (hint_1 : Int) (allowDuplicates_2 : Bool) : W :=
 Drw <|
 Both (
  RawT Go.Proofs.Tryd.prog (Instr.makeSlice 67 (.int .i64 0) (.int .i64 hint_1)) (.s (.one .slice)) fun s3p s3l s3c =>
  RawT Go.Proofs.Tryd.prog (Instr.makeMap 68 (some (.int .i64 hint_1))) (.s (.one .map)) fun m4 =>
  New [.slice s3p s3l s3c, .map m4, .bool false, .bool allowDuplicates_2] 70 fun n5 =>
  k (.pointer (some ⟨n5, 0, none⟩))) (
  RawT Go.Proofs.Tryd.prog (Instr.makeMap 68 (some (.int .i64 hint_1))) (.s (.one .map)) fun m6 =>
  RawT Go.Proofs.Tryd.prog (Instr.makeSlice 67 (.int .i64 0) (.int .i64 hint_1)) (.s (.one .slice)) fun s7p s7l s7c =>
  New [.slice s7p s7l s7c, .map m6, .bool false, .bool allowDuplicates_2] 70 fun n8 =>
  k (.pointer (some ⟨n8, 0, none⟩)))
theorem F19_eq (k : Value → W) (hint_1 : Int) (allowDuplicates_2 : Bool) : compF Go.Proofs.Tryd.prog Go.Proofs.Tryd.f19 [] (Go.Proofs.Tryd.f19.body.getD .skip) [.int .i64 hint_1, .bool allowDuplicates_2] k = F19 k hint_1 allowDuplicates_2 := by kernel_rfl
theorem F19_calls {hint_1 : Int} {allowDuplicates_2 : Bool} {w : World} {R : Ending → World → Prop} (h : F19 (fun v w => R (.returned v) w) hint_1 allowDuplicates_2 w) : Calls Go.Proofs.Tryd.prog 19 #[.int .i64 hint_1, .bool allowDuplicates_2] w R :=
  calls_of_compF noNum follows [] (f := 19) (fn := Go.Proofs.Tryd.f19) (body := Go.Proofs.Tryd.f19.body.getD .skip) (args := [.int .i64 hint_1, .bool allowDuplicates_2]) rfl rfl (Nat.le_of_ble_eq_true rfl) ((congrFun (F19_eq _ hint_1 allowDuplicates_2) w).mpr h)
theorem F19_call {hint_1 : Int} {allowDuplicates_2 : Bool} {w : World} {g : Fn W (RTy.leaves (.s (.one .ptr)))} (h : F19 (fun v => Back (.s (.one .ptr)) g (.returned v)) hint_1 allowDuplicates_2 w) : CallT Go.Proofs.Tryd.prog 19 [.int .i64 hint_1, .bool allowDuplicates_2] (.s (.one .ptr)) g w := F19_calls h

/-! ## impl.pqError -/
def F32 (k : Value → W) (e_1 : Value) : W :=
 IfaceNil e_1 fun b2 =>
 BIf b2 (
  k (.int .i64 0)) (
  LoadT .any ⟨0, 0, none⟩ fun v3 =>
  RawS Go.Proofs.Tryd.prog (binS .eql 75 (.tmp 3) (.tmp 7) e_1 v3) (.s (.one .bool)) fun b4 =>
  BIf b4 (
   k (.int .i64 1)) (
   LoadT .any ⟨1, 0, none⟩ fun v5 =>
   RawS Go.Proofs.Tryd.prog (binS .eql 75 (.tmp 3) (.tmp 10) e_1 v5) (.s (.one .bool)) fun b6 =>
   BIf b6 (
    k (.int .i64 2)) (
    LoadT .any ⟨2, 0, none⟩ fun v7 =>
    RawS Go.Proofs.Tryd.prog (binS .eql 75 (.tmp 3) (.tmp 13) e_1 v7) (.s (.one .bool)) fun b8 =>
    BIf b8 (
     k (.int .i64 3)) (
     k (.int .i64 4)))))
theorem F32_eq (k : Value → W) (e_1 : Value) : compF Go.Proofs.Tryd.prog Go.Proofs.Tryd.f32 [] (Go.Proofs.Tryd.f32.body.getD .skip) [e_1] k = F32 k e_1 := by kernel_rfl
theorem F32_calls {e_1 : Value} {w : World} {R : Ending → World → Prop} (h : F32 (fun v w => R (.returned v) w) e_1 w) : Calls Go.Proofs.Tryd.prog 32 #[e_1] w R :=
  calls_of_compF noNum follows [] (f := 32) (fn := Go.Proofs.Tryd.f32) (body := Go.Proofs.Tryd.f32.body.getD .skip) (args := [e_1]) rfl rfl (Nat.le_of_ble_eq_true rfl) ((congrFun (F32_eq _ e_1) w).mpr h)
theorem F32_call {e_1 : Value} {w : World} {g : Fn W (RTy.leaves (.s (.one (.int .i64))))} (h : F32 (fun v => Back (.s (.one (.int .i64))) g (.returned v)) e_1 w) : CallT Go.Proofs.Tryd.prog 32 [e_1] (.s (.one (.int .i64))) g w := F32_calls h

/-! ## queue.priorityItems).swap -/
def F50 (k : Value → W) (items_1 : Option Addr) (i_2 : Int) (j_3 : Int) : W :=
 Drw <|
 NN items_1 fun a4 =>
 LoadT .slice a4 fun s5p s5l s5c =>
 NN items_1 fun a6 =>
 LoadT .slice a6 fun s7p s7l s7c =>
 NN items_1 fun a8 =>
 LoadT .slice a8 fun s9p s9l s9c =>
 NN s9p fun a10 =>
 Req (0 ≤ j_3 ∧ j_3 < ((s9l : Nat) : Int)) <|
 LoadT .any (a10.add j_3.toNat) fun v11 =>
 NN items_1 fun a12 =>
 LoadT .slice a12 fun s13p s13l s13c =>
 NN s13p fun a14 =>
 Req (0 ≤ i_2 ∧ i_2 < ((s13l : Nat) : Int)) <|
 LoadT .any (a14.add i_2.toNat) fun v15 =>
 NN s5p fun a16 =>
 Req (0 ≤ i_2 ∧ i_2 < ((s5l : Nat) : Int)) <|
 Req (oneC v11 = true) <|
 Store1 (a16.add i_2.toNat) v11 <|
 NN s7p fun a17 =>
 Req (0 ≤ j_3 ∧ j_3 < ((s7l : Nat) : Int)) <|
 Req (oneC v15 = true) <|
 Store1 (a17.add j_3.toNat) v15 <|
 k (.tuple #[])
theorem F50_eq (k : Value → W) (items_1 : Option Addr) (i_2 : Int) (j_3 : Int) : compF Go.Proofs.Tryd.prog Go.Proofs.Tryd.f50 [] (Go.Proofs.Tryd.f50.body.getD .skip) [.pointer items_1, .int .i64 i_2, .int .i64 j_3] k = F50 k items_1 i_2 j_3 := by kernel_rfl
theorem F50_calls {items_1 : Option Addr} {i_2 : Int} {j_3 : Int} {w : World} {R : Ending → World → Prop} (h : F50 (fun v w => R (.returned v) w) items_1 i_2 j_3 w) : Calls Go.Proofs.Tryd.prog 50 #[.pointer items_1, .int .i64 i_2, .int .i64 j_3] w R :=
  calls_of_compF noNum follows [] (f := 50) (fn := Go.Proofs.Tryd.f50) (body := Go.Proofs.Tryd.f50.body.getD .skip) (args := [.pointer items_1, .int .i64 i_2, .int .i64 j_3]) rfl rfl (Nat.le_of_ble_eq_true rfl) ((congrFun (F50_eq _ items_1 i_2 j_3) w).mpr h)
theorem F50_call {items_1 : Option Addr} {i_2 : Int} {j_3 : Int} {w : World} {g : Fn W (RTy.leaves (.tup []))} (h : F50 (fun v => Back (.tup []) g (.returned v)) items_1 i_2 j_3 w) : CallT Go.Proofs.Tryd.prog 50 [.pointer items_1, .int .i64 i_2, .int .i64 j_3] (.tup []) g w := F50_calls h

/-! ## queue.priorityItems).push -/
def F46_L1 (k : Value → W) (again16 : Option Addr → Value → Int → Int → W) (items_12 : Option Addr) (item_13 : Value) (index_14 : Int) (parent_15 : Int) : W :=
 BIf (decide (parent_15 ≥ 0)) (
  NN items_12 fun a17 =>
  LoadT .slice a17 fun s18p s18l s18c =>
  NN s18p fun a19 =>
  Req (0 ≤ parent_15 ∧ parent_15 < ((s18l : Nat) : Int)) <|
  LoadT .any (a19.add parent_15.toNat) fun v20 =>
  NextT Go.Proofs.Tryd.prog (callMethod v20 "Compare" [item_13].toArray) (.s (.one (.int .i64))) fun x21 =>
  BIf (decide (x21 > 0)) (
   CallT Go.Proofs.Tryd.prog 50 [.pointer items_12, .int .i64 index_14, .int .i64 parent_15] (.tup []) <|
   Req (2 ≠ (0 : Int)) <|
   Bind (quoI .i64 (subI .i64 parent_15 1) 2 : Int) fun parent_22 =>
   again16 items_12 item_13 parent_15 parent_22) (
   k (.tuple #[]))) (
  k (.tuple #[]))
theorem F46_L1_rule {k : Value → W} (I : Option Addr → Value → Int → Int → W) (μ : Option Addr → Value → Int → Int → World → Nat)
  (hr : ∀ (items_12 : Option Addr) (item_13 : Value) (index_14 : Int) (parent_15 : Int) (w : World), I items_12 item_13 index_14 parent_15 w → F46_L1 k (fun items_12' item_13' index_14' parent_15' w' => I items_12' item_13' index_14' parent_15' w' ∧ μ items_12' item_13' index_14' parent_15' w' < μ items_12 item_13 index_14 parent_15 w) items_12 item_13 index_14 parent_15 w)
  {w : World} {items_12 : Option Addr} {item_13 : Value} {index_14 : Int} {parent_15 : Int} (h : I items_12 item_13 index_14 parent_15 w) : Loop [.ptr, .any, (.int .i64), (.int .i64)] (F46_L1 k) items_12 item_13 index_14 parent_15 w :=
  Loop_intro (ts := [.ptr, .any, (.int .i64), (.int .i64)]) (s := (items_12, item_13, index_14, parent_15, ())) (fun s w => I s.1 s.2.1 s.2.2.1 s.2.2.2.1 w) (fun s w => μ s.1 s.2.1 s.2.2.1 s.2.2.2.1 w) h (fun s w h => hr s.1 s.2.1 s.2.2.1 s.2.2.2.1 w h)
def F46 (k : Value → W) (items_1 : Option Addr) (item_2 : Value) : W :=
 NN items_1 fun a3 =>
 LoadT .slice a3 fun s4p s4l s4c =>
 RawT Go.Proofs.Tryd.prog (Instr.buildSlice 67 1 [(0, item_2)].toArray) (.s (.one .slice)) fun s5p s5l s5c =>
 NextT Go.Proofs.Tryd.prog (builtin .append #[67, 67] 67 [false, false].toArray [.slice s4p s4l s4c, .slice s5p s5l s5c].toArray) (.s (.one .slice)) fun s6p s6l s6c =>
 NN items_1 fun a7 =>
 Store1 a7 (.slice s6p s6l s6c) <|
 NN items_1 fun a8 =>
 LoadT .slice a8 fun s9p s9l s9c =>
 Bind (subI .i64 ((s9l : Nat) : Int) 1 : Int) fun index_10 =>
 Req (2 ≠ (0 : Int)) <|
 Bind (quoI .i64 (subI .i64 index_10 1) 2 : Int) fun parent_11 =>
 Loop [.ptr, .any, (.int .i64), (.int .i64)] (F46_L1 k) items_1 item_2 index_10 parent_11
theorem F46_eq (k : Value → W) (items_1 : Option Addr) (item_2 : Value) : compF Go.Proofs.Tryd.prog Go.Proofs.Tryd.f46 [(3, [(0, .ptr), (1, .any), (4, (.int .i64)), (5, (.int .i64))])] (Go.Proofs.Tryd.f46.body.getD .skip) [.pointer items_1, item_2] k = F46 k items_1 item_2 := by kernel_rfl
theorem F46_calls {items_1 : Option Addr} {item_2 : Value} {w : World} {R : Ending → World → Prop} (h : F46 (fun v w => R (.returned v) w) items_1 item_2 w) : Calls Go.Proofs.Tryd.prog 46 #[.pointer items_1, item_2] w R :=
  calls_of_compF noNum follows [(3, [(0, .ptr), (1, .any), (4, (.int .i64)), (5, (.int .i64))])] (f := 46) (fn := Go.Proofs.Tryd.f46) (body := Go.Proofs.Tryd.f46.body.getD .skip) (args := [.pointer items_1, item_2]) rfl rfl (Nat.le_of_ble_eq_true rfl) ((congrFun (F46_eq _ items_1 item_2) w).mpr h)
theorem F46_call {items_1 : Option Addr} {item_2 : Value} {w : World} {g : Fn W (RTy.leaves (.tup []))} (h : F46 (fun v => Back (.tup []) g (.returned v)) items_1 item_2 w) : CallT Go.Proofs.Tryd.prog 46 [.pointer items_1, item_2] (.tup []) g w := F46_calls h

/-! ## queue.PriorityQueue).Put -/
def F33_L1 (k : Value → W) (again10 : Option Addr → Option Addr → Nat → Nat → Int → Int → W) (pq_6 : Option Addr) (s7p : Option Addr) (s7l : Nat) (s7c : Nat) (x8 : Int) (x9 : Int) : W :=
 BIf (decide (x9 < x8)) (
  NN s7p fun a11 =>
  Req (0 ≤ x9 ∧ x9 < ((s7l : Nat) : Int)) <|
  LoadT .any (a11.add x9.toNat) fun v12 =>
  NN pq_6 fun a13 =>
  LoadT .bool (a13.add 3) fun b14 =>
  BIf b14 (
   NN pq_6 fun a15 =>
   CallT Go.Proofs.Tryd.prog 46 [.pointer (some a15), v12] (.tup []) <|
   again10 pq_6 s7p s7l s7c x8 (addI .i64 x9 1)) (
   NN pq_6 fun a16 =>
   LoadT .map (a16.add 1) fun m17 =>
   RawS Go.Proofs.Tryd.prog (Instr.lookup 68 (.map m17) v12 true) (.tup [(.agg []), (.one .bool)]) fun b18 =>
   New [] 93 fun n19 =>
   BIf (!b18) (
    NN pq_6 fun a20 =>
    LoadT .map (a20.add 1) fun m21 =>
    RawU Go.Proofs.Tryd.prog (Instr.mapUpdate 68 (.map m21) v12 (.agg #[])) <|
    NN pq_6 fun a22 =>
    CallT Go.Proofs.Tryd.prog 46 [.pointer (some a22), v12] (.tup []) <|
    again10 pq_6 s7p s7l s7c x8 (addI .i64 x9 1)) (
    again10 pq_6 s7p s7l s7c x8 (addI .i64 x9 1)))) (
  k .nilIface)
theorem F33_L1_rule {k : Value → W} (I : Option Addr → Option Addr → Nat → Nat → Int → Int → W) (μ : Option Addr → Option Addr → Nat → Nat → Int → Int → World → Nat)
  (hr : ∀ (pq_6 : Option Addr) (s7p : Option Addr) (s7l : Nat) (s7c : Nat) (x8 : Int) (x9 : Int) (w : World), I pq_6 s7p s7l s7c x8 x9 w → F33_L1 k (fun pq_6' s7p' s7l' s7c' x8' x9' w' => I pq_6' s7p' s7l' s7c' x8' x9' w' ∧ μ pq_6' s7p' s7l' s7c' x8' x9' w' < μ pq_6 s7p s7l s7c x8 x9 w) pq_6 s7p s7l s7c x8 x9 w)
  {w : World} {pq_6 : Option Addr} {s7p : Option Addr} {s7l : Nat} {s7c : Nat} {x8 : Int} {x9 : Int} (h : I pq_6 s7p s7l s7c x8 x9 w) : Loop [.ptr, .slice, (.int .i64), (.int .i64)] (F33_L1 k) pq_6 s7p s7l s7c x8 x9 w :=
  Loop_intro (ts := [.ptr, .slice, (.int .i64), (.int .i64)]) (s := (pq_6, (s7p, s7l, s7c), x8, x9, ())) (fun s w => I s.1 s.2.1.1 s.2.1.2.1 s.2.1.2.2 s.2.2.1 s.2.2.2.1 w) (fun s w => μ s.1 s.2.1.1 s.2.1.2.1 s.2.1.2.2 s.2.2.1 s.2.2.2.1 w) h (fun s w h => hr s.1 s.2.1.1 s.2.1.2.1 s.2.1.2.2 s.2.2.1 s.2.2.2.1 w h)
def F33 (k : Value → W) (pq_1 : Option Addr) (items_2p : Option Addr) (items_2l : Nat) (items_2c : Nat) : W :=
 BIf (((items_2l : Nat) : Int) == 0) (
  k .nilIface) (
  NN pq_1 fun a3 =>
  LoadT .bool (a3.add 2) fun b4 =>
  BIf b4 (
   LoadT .any ⟨0, 0, none⟩ fun v5 =>
   k v5) (
   Loop [.ptr, .slice, (.int .i64), (.int .i64)] (F33_L1 k) pq_1 items_2p items_2l items_2c ((items_2l : Nat) : Int) 0))
theorem F33_eq (k : Value → W) (pq_1 : Option Addr) (items_2p : Option Addr) (items_2l : Nat) (items_2c : Nat) : compF Go.Proofs.Tryd.prog Go.Proofs.Tryd.f33 [(6, [(0, .ptr), (17, .slice), (18, (.int .i64)), (19, (.int .i64))])] (Go.Proofs.Tryd.f33.body.getD .skip) [.pointer pq_1, .slice items_2p items_2l items_2c] k = F33 k pq_1 items_2p items_2l items_2c := by kernel_rfl
theorem F33_calls {pq_1 : Option Addr} {items_2p : Option Addr} {items_2l : Nat} {items_2c : Nat} {w : World} {R : Ending → World → Prop} (h : F33 (fun v w => R (.returned v) w) pq_1 items_2p items_2l items_2c w) : Calls Go.Proofs.Tryd.prog 33 #[.pointer pq_1, .slice items_2p items_2l items_2c] w R :=
  calls_of_compF noNum follows [(6, [(0, .ptr), (17, .slice), (18, (.int .i64)), (19, (.int .i64))])] (f := 33) (fn := Go.Proofs.Tryd.f33) (body := Go.Proofs.Tryd.f33.body.getD .skip) (args := [.pointer pq_1, .slice items_2p items_2l items_2c]) rfl rfl (Nat.le_of_ble_eq_true rfl) ((congrFun (F33_eq _ pq_1 items_2p items_2l items_2c) w).mpr h)
theorem F33_call {pq_1 : Option Addr} {items_2p : Option Addr} {items_2l : Nat} {items_2c : Nat} {w : World} {g : Fn W (RTy.leaves (.s (.one .any)))} (h : F33 (fun v => Back (.s (.one .any)) g (.returned v)) pq_1 items_2p items_2l items_2c w) : CallT Go.Proofs.Tryd.prog 33 [.pointer pq_1, .slice items_2p items_2l items_2c] (.s (.one .any)) g w := F33_calls h

/-! ## queue.PriorityQueue).Empty -/
def F34 (k : Value → W) (pq_1 : Option Addr) : W :=
 NN pq_1 fun a2 =>
 LoadT .slice a2 fun s3p s3l s3c =>
 k (.bool (((s3l : Nat) : Int) == 0))
theorem F34_eq (k : Value → W) (pq_1 : Option Addr) : compF Go.Proofs.Tryd.prog Go.Proofs.Tryd.f34 [] (Go.Proofs.Tryd.f34.body.getD .skip) [.pointer pq_1] k = F34 k pq_1 := by kernel_rfl
theorem F34_calls {pq_1 : Option Addr} {w : World} {R : Ending → World → Prop} (h : F34 (fun v w => R (.returned v) w) pq_1 w) : Calls Go.Proofs.Tryd.prog 34 #[.pointer pq_1] w R :=
  calls_of_compF noNum follows [] (f := 34) (fn := Go.Proofs.Tryd.f34) (body := Go.Proofs.Tryd.f34.body.getD .skip) (args := [.pointer pq_1]) rfl rfl (Nat.le_of_ble_eq_true rfl) ((congrFun (F34_eq _ pq_1) w).mpr h)
theorem F34_call {pq_1 : Option Addr} {w : World} {g : Fn W (RTy.leaves (.s (.one .bool)))} (h : F34 (fun v => Back (.s (.one .bool)) g (.returned v)) pq_1 w) : CallT Go.Proofs.Tryd.prog 34 [.pointer pq_1] (.s (.one .bool)) g w := F34_calls h

/-! ## queue.PriorityQueue).Disposed -/
def F35 (k : Value → W) (pq_1 : Option Addr) : W :=
 NN pq_1 fun a2 =>
 LoadT .bool (a2.add 2) fun b3 =>
 k (.bool b3)
theorem F35_eq (k : Value → W) (pq_1 : Option Addr) : compF Go.Proofs.Tryd.prog Go.Proofs.Tryd.f35 [] (Go.Proofs.Tryd.f35.body.getD .skip) [.pointer pq_1] k = F35 k pq_1 := by kernel_rfl
theorem F35_calls {pq_1 : Option Addr} {w : World} {R : Ending → World → Prop} (h : F35 (fun v w => R (.returned v) w) pq_1 w) : Calls Go.Proofs.Tryd.prog 35 #[.pointer pq_1] w R :=
  calls_of_compF noNum follows [] (f := 35) (fn := Go.Proofs.Tryd.f35) (body := Go.Proofs.Tryd.f35.body.getD .skip) (args := [.pointer pq_1]) rfl rfl (Nat.le_of_ble_eq_true rfl) ((congrFun (F35_eq _ pq_1) w).mpr h)
theorem F35_call {pq_1 : Option Addr} {w : World} {g : Fn W (RTy.leaves (.s (.one .bool)))} (h : F35 (fun v => Back (.s (.one .bool)) g (.returned v)) pq_1 w) : CallT Go.Proofs.Tryd.prog 35 [.pointer pq_1] (.s (.one .bool)) g w := F35_calls h

/-! ## queue.priorityItems).pop -/
def F51_J2 (k : Value → W) (again21 : Option Addr → Value → Int → Int → Int → W) (items_41 : Option Addr) (item_42 : Value) (index_43 : Int) (child_44 : Int) : W :=
 Drw <|
 NN items_41 fun a45 =>
 LoadT .slice a45 fun s46p s46l s46c =>
 NN s46p fun a47 =>
 Req (0 ≤ child_44 ∧ child_44 < ((s46l : Nat) : Int)) <|
 LoadT .any (a47.add child_44.toNat) fun v48 =>
 NN items_41 fun a49 =>
 LoadT .slice a49 fun s50p s50l s50c =>
 NN s50p fun a51 =>
 Req (0 ≤ index_43 ∧ index_43 < ((s50l : Nat) : Int)) <|
 LoadT .any (a51.add index_43.toNat) fun v52 =>
 Req (nnv v48 = true) <|
 NextT Go.Proofs.Tryd.prog (callMethod v48 "Compare" [v52].toArray) (.s (.one (.int .i64))) fun x53 =>
 Chk1 a49 (.slice s50p s50l s50c) <|
 Chk1 (a47.add child_44.toNat) v48 <|
 Chk1 a45 (.slice s46p s46l s46c) <|
 BIf (decide (x53 < 0)) (
  CallT Go.Proofs.Tryd.prog 50 [.pointer items_41, .int .i64 index_43, .int .i64 child_44] (.tup []) <|
  Bind (addI .i64 (mulI .i64 2 child_44) 1 : Int) fun childL_54 =>
  Bind (addI .i64 (mulI .i64 2 child_44) 2 : Int) fun childR_55 =>
  again21 items_41 item_42 child_44 childL_54 childR_55) (
  k item_42)
def F51_J1 (k : Value → W) (again21 : Option Addr → Value → Int → Int → Int → W) (items_35 : Option Addr) (item_36 : Value) (index_37 : Int) (childR_38 : Int) (child_39 : Int) (b40 : Bool) : W :=
 BIf b40 (
  F51_J2 k again21 items_35 item_36 index_37 childR_38) (
  F51_J2 k again21 items_35 item_36 index_37 child_39)
def F51_L1 (k : Value → W) (again21 : Option Addr → Value → Int → Int → Int → W) (items_16 : Option Addr) (item_17 : Value) (index_18 : Int) (childL_19 : Int) (childR_20 : Int) : W :=
 NN items_16 fun a22 =>
 LoadT .slice a22 fun s23p s23l s23c =>
 BIf (decide (((s23l : Nat) : Int) > childL_19)) (
  Drw <|
  NN items_16 fun a24 =>
  LoadT .slice a24 fun s25p s25l s25c =>
  BIf (decide (((s25l : Nat) : Int) > childR_20)) (
   NN items_16 fun a26 =>
   LoadT .slice a26 fun s27p s27l s27c =>
   NN s27p fun a28 =>
   Req (0 ≤ childR_20 ∧ childR_20 < ((s27l : Nat) : Int)) <|
   LoadT .any (a28.add childR_20.toNat) fun v29 =>
   NN items_16 fun a30 =>
   LoadT .slice a30 fun s31p s31l s31c =>
   NN s31p fun a32 =>
   Req (0 ≤ childL_19 ∧ childL_19 < ((s31l : Nat) : Int)) <|
   LoadT .any (a32.add childL_19.toNat) fun v33 =>
   Req (nnv v29 = true) <|
   NextT Go.Proofs.Tryd.prog (callMethod v29 "Compare" [v33].toArray) (.s (.one (.int .i64))) fun x34 =>
   Chk1 a30 (.slice s31p s31l s31c) <|
   Chk1 (a28.add childR_20.toNat) v29 <|
   Chk1 a26 (.slice s27p s27l s27c) <|
   Chk1 a24 (.slice s25p s25l s25c) <|
   F51_J1 k again21 items_16 item_17 index_18 childR_20 childL_19 (decide (x34 < 0))) (
   F51_J1 k again21 items_16 item_17 index_18 childR_20 childL_19 false)) (
  k item_17)
theorem F51_L1_rule {k : Value → W} (I : Option Addr → Value → Int → Int → Int → W) (μ : Option Addr → Value → Int → Int → Int → World → Nat)
  (hr : ∀ (items_16 : Option Addr) (item_17 : Value) (index_18 : Int) (childL_19 : Int) (childR_20 : Int) (w : World), I items_16 item_17 index_18 childL_19 childR_20 w → F51_L1 k (fun items_16' item_17' index_18' childL_19' childR_20' w' => I items_16' item_17' index_18' childL_19' childR_20' w' ∧ μ items_16' item_17' index_18' childL_19' childR_20' w' < μ items_16 item_17 index_18 childL_19 childR_20 w) items_16 item_17 index_18 childL_19 childR_20 w)
  {w : World} {items_16 : Option Addr} {item_17 : Value} {index_18 : Int} {childL_19 : Int} {childR_20 : Int} (h : I items_16 item_17 index_18 childL_19 childR_20 w) : Loop [.ptr, .any, (.int .i64), (.int .i64), (.int .i64)] (F51_L1 k) items_16 item_17 index_18 childL_19 childR_20 w :=
  Loop_intro (ts := [.ptr, .any, (.int .i64), (.int .i64), (.int .i64)]) (s := (items_16, item_17, index_18, childL_19, childR_20, ())) (fun s w => I s.1 s.2.1 s.2.2.1 s.2.2.2.1 s.2.2.2.2.1 w) (fun s w => μ s.1 s.2.1 s.2.2.1 s.2.2.2.1 s.2.2.2.2.1 w) h (fun s w h => hr s.1 s.2.1 s.2.2.1 s.2.2.2.1 s.2.2.2.2.1 w h)
def F51 (k : Value → W) (items_1 : Option Addr) : W :=
 NN items_1 fun a2 =>
 LoadT .slice a2 fun s3p s3l s3c =>
 CallT Go.Proofs.Tryd.prog 50 [.pointer items_1, .int .i64 (subI .i64 ((s3l : Nat) : Int) 1), .int .i64 0] (.tup []) <|
 NN items_1 fun a4 =>
 LoadT .slice a4 fun s5p s5l s5c =>
 NN s5p fun a6 =>
 Req (0 ≤ subI .i64 ((s3l : Nat) : Int) 1 ∧ subI .i64 ((s3l : Nat) : Int) 1 < ((s5l : Nat) : Int)) <|
 LoadT .any (a6.add ((subI .i64 ((s3l : Nat) : Int) 1).toNat)) fun v7 =>
 Drw <|
 NN items_1 fun a8 =>
 LoadT .slice a8 fun s9p s9l s9c =>
 NN items_1 fun a10 =>
 LoadT .slice a10 fun s11p s11l s11c =>
 Req (0 ≤ subI .i64 ((s3l : Nat) : Int) 1 ∧ subI .i64 ((s3l : Nat) : Int) 1 ≤ ((s11c : Nat) : Int)) <|
 NN s9p fun a12 =>
 Req (0 ≤ subI .i64 ((s3l : Nat) : Int) 1 ∧ subI .i64 ((s3l : Nat) : Int) 1 < ((s9l : Nat) : Int)) <|
 Store1 (a12.add ((subI .i64 ((s3l : Nat) : Int) 1).toNat)) .nilIface <|
 NN items_1 fun a13 =>
 Store1 a13 (.slice (sliceA s11p 0 s11c 1) (((subI .i64 ((s3l : Nat) : Int) 1).toNat) - 0) (s11c - 0)) <|
 Bind (addI .i64 (mulI .i64 2 0) 1 : Int) fun childL_14 =>
 Bind (addI .i64 (mulI .i64 2 0) 2 : Int) fun childR_15 =>
 Loop [.ptr, .any, (.int .i64), (.int .i64), (.int .i64)] (F51_L1 k) items_1 v7 0 childL_14 childR_15
theorem F51_eq (k : Value → W) (items_1 : Option Addr) : compF Go.Proofs.Tryd.prog Go.Proofs.Tryd.f51 [(7, [(0, .ptr), (4, .any), (5, (.int .i64)), (6, (.int .i64)), (7, (.int .i64))])] (Go.Proofs.Tryd.f51.body.getD .skip) [.pointer items_1] k = F51 k items_1 := by kernel_rfl
theorem F51_calls {items_1 : Option Addr} {w : World} {R : Ending → World → Prop} (h : F51 (fun v w => R (.returned v) w) items_1 w) : Calls Go.Proofs.Tryd.prog 51 #[.pointer items_1] w R :=
  calls_of_compF noNum follows [(7, [(0, .ptr), (4, .any), (5, (.int .i64)), (6, (.int .i64)), (7, (.int .i64))])] (f := 51) (fn := Go.Proofs.Tryd.f51) (body := Go.Proofs.Tryd.f51.body.getD .skip) (args := [.pointer items_1]) rfl rfl (Nat.le_of_ble_eq_true rfl) ((congrFun (F51_eq _ items_1) w).mpr h)
theorem F51_call {items_1 : Option Addr} {w : World} {g : Fn W (RTy.leaves (.s (.one .any)))} (h : F51 (fun v => Back (.s (.one .any)) g (.returned v)) items_1 w) : CallT Go.Proofs.Tryd.prog 51 [.pointer items_1] (.s (.one .any)) g w := F51_calls h

/-! ## queue.priorityItems).get -/
def F48_L1 (k : Value → W) (again8 : Option Addr → Int → Option Addr → Nat → Nat → Int → W) (items_4 : Option Addr) (number_5 : Int) (returnItems_6p : Option Addr) (returnItems_6l : Nat) (returnItems_6c : Nat) (i_7 : Int) : W :=
 BIf (decide (i_7 < number_5)) (
  NN items_4 fun a9 =>
  LoadT .slice a9 fun s10p s10l s10c =>
  BIf (((s10l : Nat) : Int) == 0) (
   k (.slice returnItems_6p returnItems_6l returnItems_6c)) (
   CallT Go.Proofs.Tryd.prog 51 [.pointer items_4] (.s (.one .any)) fun v11 =>
   RawT Go.Proofs.Tryd.prog (Instr.buildSlice 66 1 [(0, v11)].toArray) (.s (.one .slice)) fun s12p s12l s12c =>
   NextT Go.Proofs.Tryd.prog (builtin .append #[66, 66] 66 [false, false].toArray [.slice returnItems_6p returnItems_6l returnItems_6c, .slice s12p s12l s12c].toArray) (.s (.one .slice)) fun s13p s13l s13c =>
   again8 items_4 number_5 s13p s13l s13c (addI .i64 i_7 1))) (
  k (.slice returnItems_6p returnItems_6l returnItems_6c))
theorem F48_L1_rule {k : Value → W} (I : Option Addr → Int → Option Addr → Nat → Nat → Int → W) (μ : Option Addr → Int → Option Addr → Nat → Nat → Int → World → Nat)
  (hr : ∀ (items_4 : Option Addr) (number_5 : Int) (returnItems_6p : Option Addr) (returnItems_6l : Nat) (returnItems_6c : Nat) (i_7 : Int) (w : World), I items_4 number_5 returnItems_6p returnItems_6l returnItems_6c i_7 w → F48_L1 k (fun items_4' number_5' returnItems_6p' returnItems_6l' returnItems_6c' i_7' w' => I items_4' number_5' returnItems_6p' returnItems_6l' returnItems_6c' i_7' w' ∧ μ items_4' number_5' returnItems_6p' returnItems_6l' returnItems_6c' i_7' w' < μ items_4 number_5 returnItems_6p returnItems_6l returnItems_6c i_7 w) items_4 number_5 returnItems_6p returnItems_6l returnItems_6c i_7 w)
  {w : World} {items_4 : Option Addr} {number_5 : Int} {returnItems_6p : Option Addr} {returnItems_6l : Nat} {returnItems_6c : Nat} {i_7 : Int} (h : I items_4 number_5 returnItems_6p returnItems_6l returnItems_6c i_7 w) : Loop [.ptr, (.int .i64), .slice, (.int .i64)] (F48_L1 k) items_4 number_5 returnItems_6p returnItems_6l returnItems_6c i_7 w :=
  Loop_intro (ts := [.ptr, (.int .i64), .slice, (.int .i64)]) (s := (items_4, number_5, (returnItems_6p, returnItems_6l, returnItems_6c), i_7, ())) (fun s w => I s.1 s.2.1 s.2.2.1.1 s.2.2.1.2.1 s.2.2.1.2.2 s.2.2.2.1 w) (fun s w => μ s.1 s.2.1 s.2.2.1.1 s.2.2.1.2.1 s.2.2.1.2.2 s.2.2.2.1 w) h (fun s w h => hr s.1 s.2.1 s.2.2.1.1 s.2.2.1.2.1 s.2.2.1.2.2 s.2.2.2.1 w h)
def F48 (k : Value → W) (items_1 : Option Addr) (number_2 : Int) : W :=
 RawT Go.Proofs.Tryd.prog (Instr.makeSlice 66 (.int .i64 0) (.int .i64 number_2)) (.s (.one .slice)) fun s3p s3l s3c =>
 Loop [.ptr, (.int .i64), .slice, (.int .i64)] (F48_L1 k) items_1 number_2 s3p s3l s3c 0
theorem F48_eq (k : Value → W) (items_1 : Option Addr) (number_2 : Int) : compF Go.Proofs.Tryd.prog Go.Proofs.Tryd.f48 [(3, [(0, .ptr), (1, (.int .i64)), (5, .slice), (6, (.int .i64))])] (Go.Proofs.Tryd.f48.body.getD .skip) [.pointer items_1, .int .i64 number_2] k = F48 k items_1 number_2 := by kernel_rfl
theorem F48_calls {items_1 : Option Addr} {number_2 : Int} {w : World} {R : Ending → World → Prop} (h : F48 (fun v w => R (.returned v) w) items_1 number_2 w) : Calls Go.Proofs.Tryd.prog 48 #[.pointer items_1, .int .i64 number_2] w R :=
  calls_of_compF noNum follows [(3, [(0, .ptr), (1, (.int .i64)), (5, .slice), (6, (.int .i64))])] (f := 48) (fn := Go.Proofs.Tryd.f48) (body := Go.Proofs.Tryd.f48.body.getD .skip) (args := [.pointer items_1, .int .i64 number_2]) rfl rfl (Nat.le_of_ble_eq_true rfl) ((congrFun (F48_eq _ items_1 number_2) w).mpr h)
theorem F48_call {items_1 : Option Addr} {number_2 : Int} {w : World} {g : Fn W (RTy.leaves (.s (.one .slice)))} (h : F48 (fun v => Back (.s (.one .slice)) g (.returned v)) items_1 number_2 w) : CallT Go.Proofs.Tryd.prog 48 [.pointer items_1, .int .i64 number_2] (.s (.one .slice)) g w := F48_calls h

/-! ## queue.PriorityQueue).Get -/
def F36 (k : Value → W) (pq_1 : Option Addr) (number_2 : Int) : W :=
 New [.pointer pq_1] 50 fun n3 =>
 BIf (decide (number_2 < 1)) (
  k (.tuple #[.slice none 0 0, .nilIface])) (
  LoadT .ptr ⟨n3, 0, none⟩ fun p4 =>
  NN p4 fun a5 =>
  LoadT .bool (a5.add 2) fun b6 =>
  BIf b6 (
   Drw <|
   LoadT .any ⟨0, 0, none⟩ fun v7 =>
   k (.tuple #[.slice none 0 0, v7])) (
   LoadT .ptr ⟨n3, 0, none⟩ fun p8 =>
   NN p8 fun a9 =>
   CallT Go.Proofs.Tryd.prog 48 [.pointer (some a9), .int .i64 number_2] (.s (.one .slice)) fun s10p s10l s10c =>
   CallT Go.Proofs.Tryd.prog 47 [.slice s10p s10l s10c, .pointer (some ⟨n3, 0, none⟩)] (.tup []) <|
   k (.tuple #[.slice s10p s10l s10c, .nilIface])))
theorem F36_eq (k : Value → W) (pq_1 : Option Addr) (number_2 : Int) : compF Go.Proofs.Tryd.prog Go.Proofs.Tryd.f36 [] (Go.Proofs.Tryd.f36.body.getD .skip) [.pointer pq_1, .int .i64 number_2] k = F36 k pq_1 number_2 := by kernel_rfl
theorem F36_calls {pq_1 : Option Addr} {number_2 : Int} {w : World} {R : Ending → World → Prop} (h : F36 (fun v w => R (.returned v) w) pq_1 number_2 w) : Calls Go.Proofs.Tryd.prog 36 #[.pointer pq_1, .int .i64 number_2] w R :=
  calls_of_compF noNum follows [] (f := 36) (fn := Go.Proofs.Tryd.f36) (body := Go.Proofs.Tryd.f36.body.getD .skip) (args := [.pointer pq_1, .int .i64 number_2]) rfl rfl (Nat.le_of_ble_eq_true rfl) ((congrFun (F36_eq _ pq_1 number_2) w).mpr h)
theorem F36_call {pq_1 : Option Addr} {number_2 : Int} {w : World} {g : Fn W (RTy.leaves (.tup [(.one .slice), (.one .any)]))} (h : F36 (fun v => Back (.tup [(.one .slice), (.one .any)]) g (.returned v)) pq_1 number_2 w) : CallT Go.Proofs.Tryd.prog 36 [.pointer pq_1, .int .i64 number_2] (.tup [(.one .slice), (.one .any)]) g w := F36_calls h

/-! ## queue.PriorityQueue).Peek -/
def F37 (k : Value → W) (pq_1 : Option Addr) : W :=
 NN pq_1 fun a2 =>
 LoadT .slice a2 fun s3p s3l s3c =>
 BIf (decide (((s3l : Nat) : Int) > 0)) (
  NN pq_1 fun a4 =>
  LoadT .slice a4 fun s5p s5l s5c =>
  NN s5p fun a6 =>
  Req (0 ≤ (0 : Int) ∧ (0 : Int) < ((s5l : Nat) : Int)) <|
  LoadT .any (a6.add ((0 : Int).toNat)) fun v7 =>
  k v7) (
  k .nilIface)
theorem F37_eq (k : Value → W) (pq_1 : Option Addr) : compF Go.Proofs.Tryd.prog Go.Proofs.Tryd.f37 [] (Go.Proofs.Tryd.f37.body.getD .skip) [.pointer pq_1] k = F37 k pq_1 := by kernel_rfl
theorem F37_calls {pq_1 : Option Addr} {w : World} {R : Ending → World → Prop} (h : F37 (fun v w => R (.returned v) w) pq_1 w) : Calls Go.Proofs.Tryd.prog 37 #[.pointer pq_1] w R :=
  calls_of_compF noNum follows [] (f := 37) (fn := Go.Proofs.Tryd.f37) (body := Go.Proofs.Tryd.f37.body.getD .skip) (args := [.pointer pq_1]) rfl rfl (Nat.le_of_ble_eq_true rfl) ((congrFun (F37_eq _ pq_1) w).mpr h)
theorem F37_call {pq_1 : Option Addr} {w : World} {g : Fn W (RTy.leaves (.s (.one .any)))} (h : F37 (fun v => Back (.s (.one .any)) g (.returned v)) pq_1 w) : CallT Go.Proofs.Tryd.prog 37 [.pointer pq_1] (.s (.one .any)) g w := F37_calls h

/-! ## queue.PriorityQueue).Len -/
def F38 (k : Value → W) (pq_1 : Option Addr) : W :=
 NN pq_1 fun a2 =>
 LoadT .slice a2 fun s3p s3l s3c =>
 k (.int .i64 ((s3l : Nat) : Int))
theorem F38_eq (k : Value → W) (pq_1 : Option Addr) : compF Go.Proofs.Tryd.prog Go.Proofs.Tryd.f38 [] (Go.Proofs.Tryd.f38.body.getD .skip) [.pointer pq_1] k = F38 k pq_1 := by kernel_rfl
theorem F38_calls {pq_1 : Option Addr} {w : World} {R : Ending → World → Prop} (h : F38 (fun v w => R (.returned v) w) pq_1 w) : Calls Go.Proofs.Tryd.prog 38 #[.pointer pq_1] w R :=
  calls_of_compF noNum follows [] (f := 38) (fn := Go.Proofs.Tryd.f38) (body := Go.Proofs.Tryd.f38.body.getD .skip) (args := [.pointer pq_1]) rfl rfl (Nat.le_of_ble_eq_true rfl) ((congrFun (F38_eq _ pq_1) w).mpr h)
theorem F38_call {pq_1 : Option Addr} {w : World} {g : Fn W (RTy.leaves (.s (.one (.int .i64))))} (h : F38 (fun v => Back (.s (.one (.int .i64))) g (.returned v)) pq_1 w) : CallT Go.Proofs.Tryd.prog 38 [.pointer pq_1] (.s (.one (.int .i64))) g w := F38_calls h

/-! ## queue.PriorityQueue).Dispose -/
def F39 (k : Value → W) (pq_1 : Option Addr) : W :=
 NN pq_1 fun a2 =>
 Store1 (a2.add 2) (.bool true) <|
 NN pq_1 fun a3 =>
 Store1 a3 (.slice none 0 0) <|
 k (.tuple #[])
theorem F39_eq (k : Value → W) (pq_1 : Option Addr) : compF Go.Proofs.Tryd.prog Go.Proofs.Tryd.f39 [] (Go.Proofs.Tryd.f39.body.getD .skip) [.pointer pq_1] k = F39 k pq_1 := by kernel_rfl
theorem F39_calls {pq_1 : Option Addr} {w : World} {R : Ending → World → Prop} (h : F39 (fun v w => R (.returned v) w) pq_1 w) : Calls Go.Proofs.Tryd.prog 39 #[.pointer pq_1] w R :=
  calls_of_compF noNum follows [] (f := 39) (fn := Go.Proofs.Tryd.f39) (body := Go.Proofs.Tryd.f39.body.getD .skip) (args := [.pointer pq_1]) rfl rfl (Nat.le_of_ble_eq_true rfl) ((congrFun (F39_eq _ pq_1) w).mpr h)
theorem F39_call {pq_1 : Option Addr} {w : World} {g : Fn W (RTy.leaves (.tup []))} (h : F39 (fun v => Back (.tup []) g (.returned v)) pq_1 w) : CallT Go.Proofs.Tryd.prog 39 [.pointer pq_1] (.tup []) g w := F39_calls h

/-! ## impl.pqStep -/
def F20_L1 (k : Value → W) (again15 : Option Addr → Addr → Option Addr → Nat → Nat → Option Addr → Nat → Nat → Int → Int → W) (q_9 : Option Addr) (a10 : Addr) (l_11p : Option Addr) (l_11l : Nat) (l_11c : Nat) (s12p : Option Addr) (s12l : Nat) (s12c : Nat) (x13 : Int) (x14 : Int) : W :=
 BIf (decide (x14 < x13)) (
  NN s12p fun a16 =>
  Req (0 ≤ x14 ∧ x14 < ((s12l : Nat) : Int)) <|
  LoadT (.int .i64) ((a16.add (x14.toNat * 2)).add 0) fun x17 =>
  LoadT (.int .i64) ((a16.add (x14.toNat * 2)).add 1) fun x18 =>
  New [.int .i64 0, .int .i64 0] 28 fun n19 =>
  Store1 ⟨n19, 0, none⟩ (.int .i64 x17) <|
  Store1 ⟨n19, 1, none⟩ (.int .i64 x18) <|
  LoadT (.int .i64) ⟨n19, 0, none⟩ fun x20 =>
  LoadT (.int .i64) ⟨n19, 1, none⟩ fun x21 =>
  RawT Go.Proofs.Tryd.prog (Instr.buildSlice 66 1 [(0, .iface 72 (.agg #[.int .i64 x20, .int .i64 x21]))].toArray) (.s (.one .slice)) fun s22p s22l s22c =>
  NextT Go.Proofs.Tryd.prog (builtin .append #[66, 66] 66 [false, false].toArray [.slice l_11p l_11l l_11c, .slice s22p s22l s22c].toArray) (.s (.one .slice)) fun s23p s23l s23c =>
  again15 q_9 a10 s23p s23l s23c s12p s12l s12c x13 (addI .i64 x14 1)) (
  CallT Go.Proofs.Tryd.prog 33 [.pointer q_9, .slice l_11p l_11l l_11c] (.s (.one .any)) fun v24 =>
  CallT Go.Proofs.Tryd.prog 32 [v24] (.s (.one (.int .i64))) fun x25 =>
  Store1 (a10.add 0) (.slice none 0 0) <|
  Store1 (a10.add 1) (.int .i64 0) <|
  Store1 (a10.add 2) (.bool false) <|
  Store1 (a10.add 3) (.int .i64 x25) <|
  LoadT .slice (a10.add 0) fun s26p s26l s26c =>
  LoadT (.int .i64) (a10.add 1) fun x27 =>
  LoadT .bool (a10.add 2) fun b28 =>
  LoadT (.int .i64) (a10.add 3) fun x29 =>
  k (.agg #[.slice s26p s26l s26c, .int .i64 x27, .bool b28, .int .i64 x29]))
theorem F20_L1_rule {k : Value → W} (I : Option Addr → Addr → Option Addr → Nat → Nat → Option Addr → Nat → Nat → Int → Int → W) (μ : Option Addr → Addr → Option Addr → Nat → Nat → Option Addr → Nat → Nat → Int → Int → World → Nat)
  (hr : ∀ (q_9 : Option Addr) (a10 : Addr) (l_11p : Option Addr) (l_11l : Nat) (l_11c : Nat) (s12p : Option Addr) (s12l : Nat) (s12c : Nat) (x13 : Int) (x14 : Int) (w : World), I q_9 a10 l_11p l_11l l_11c s12p s12l s12c x13 x14 w → F20_L1 k (fun q_9' a10' l_11p' l_11l' l_11c' s12p' s12l' s12c' x13' x14' w' => I q_9' a10' l_11p' l_11l' l_11c' s12p' s12l' s12c' x13' x14' w' ∧ μ q_9' a10' l_11p' l_11l' l_11c' s12p' s12l' s12c' x13' x14' w' < μ q_9 a10 l_11p l_11l l_11c s12p s12l s12c x13 x14 w) q_9 a10 l_11p l_11l l_11c s12p s12l s12c x13 x14 w)
  {w : World} {q_9 : Option Addr} {a10 : Addr} {l_11p : Option Addr} {l_11l : Nat} {l_11c : Nat} {s12p : Option Addr} {s12l : Nat} {s12c : Nat} {x13 : Int} {x14 : Int} (h : I q_9 a10 l_11p l_11l l_11c s12p s12l s12c x13 x14 w) : Loop [.ptr, .addr, .slice, .slice, (.int .i64), (.int .i64)] (F20_L1 k) q_9 a10 l_11p l_11l l_11c s12p s12l s12c x13 x14 w :=
  Loop_intro (ts := [.ptr, .addr, .slice, .slice, (.int .i64), (.int .i64)]) (s := (q_9, a10, (l_11p, l_11l, l_11c), (s12p, s12l, s12c), x13, x14, ())) (fun s w => I s.1 s.2.1 s.2.2.1.1 s.2.2.1.2.1 s.2.2.1.2.2 s.2.2.2.1.1 s.2.2.2.1.2.1 s.2.2.2.1.2.2 s.2.2.2.2.1 s.2.2.2.2.2.1 w) (fun s w => μ s.1 s.2.1 s.2.2.1.1 s.2.2.1.2.1 s.2.2.1.2.2 s.2.2.2.1.1 s.2.2.2.1.2.1 s.2.2.2.1.2.2 s.2.2.2.2.1 s.2.2.2.2.2.1 w) h (fun s w h => hr s.1 s.2.1 s.2.2.1.1 s.2.2.1.2.1 s.2.2.1.2.2 s.2.2.2.1.1 s.2.2.2.1.2.1 s.2.2.2.1.2.2 s.2.2.2.2.1 s.2.2.2.2.2.1 w h)
def F20_L2 (k : Value → W) (again51 : Addr → Addr → Option Addr → Nat → Nat → Int → Int → W) (a46 : Addr) (out_47 : Addr) (s48p : Option Addr) (s48l : Nat) (s48c : Nat) (x49 : Int) (x50 : Int) : W :=
 BIf (decide (x50 < x49)) (
  NN s48p fun a52 =>
  Req (0 ≤ x50 ∧ x50 < ((s48l : Nat) : Int)) <|
  LoadT .any (a52.add x50.toNat) fun v53 =>
  Drw <|
  LoadT .slice out_47 fun s54p s54l s54c =>
  TAs v53 72 (.s (.agg [(.int .i64), (.int .i64)])) fun x55 x56 =>
  RawT Go.Proofs.Tryd.prog (Instr.buildSlice 25 1 [(0, .agg #[.int .i64 x55, .int .i64 x56])].toArray) (.s (.one .slice)) fun s57p s57l s57c =>
  Chk1 out_47 (.slice s54p s54l s54c) <|
  NextT Go.Proofs.Tryd.prog (builtin .append #[25, 25] 25 [false, false].toArray [.slice s54p s54l s54c, .slice s57p s57l s57c].toArray) (.s (.one .slice)) fun s58p s58l s58c =>
  Store1 out_47 (.slice s58p s58l s58c) <|
  again51 a46 out_47 s48p s48l s48c x49 (addI .i64 x50 1)) (
  LoadT .slice (out_47.add 0) fun s59p s59l s59c =>
  LoadT (.int .i64) (out_47.add 1) fun x60 =>
  LoadT .bool (out_47.add 2) fun b61 =>
  LoadT (.int .i64) (out_47.add 3) fun x62 =>
  Store1 (a46.add 0) (.slice s59p s59l s59c) <|
  Store1 (a46.add 1) (.int .i64 x60) <|
  Store1 (a46.add 2) (.bool b61) <|
  Store1 (a46.add 3) (.int .i64 x62) <|
  LoadT .slice (a46.add 0) fun s63p s63l s63c =>
  LoadT (.int .i64) (a46.add 1) fun x64 =>
  LoadT .bool (a46.add 2) fun b65 =>
  LoadT (.int .i64) (a46.add 3) fun x66 =>
  k (.agg #[.slice s63p s63l s63c, .int .i64 x64, .bool b65, .int .i64 x66]))
theorem F20_L2_rule {k : Value → W} (I : Addr → Addr → Option Addr → Nat → Nat → Int → Int → W) (μ : Addr → Addr → Option Addr → Nat → Nat → Int → Int → World → Nat)
  (hr : ∀ (a46 : Addr) (out_47 : Addr) (s48p : Option Addr) (s48l : Nat) (s48c : Nat) (x49 : Int) (x50 : Int) (w : World), I a46 out_47 s48p s48l s48c x49 x50 w → F20_L2 k (fun a46' out_47' s48p' s48l' s48c' x49' x50' w' => I a46' out_47' s48p' s48l' s48c' x49' x50' w' ∧ μ a46' out_47' s48p' s48l' s48c' x49' x50' w' < μ a46 out_47 s48p s48l s48c x49 x50 w) a46 out_47 s48p s48l s48c x49 x50 w)
  {w : World} {a46 : Addr} {out_47 : Addr} {s48p : Option Addr} {s48l : Nat} {s48c : Nat} {x49 : Int} {x50 : Int} (h : I a46 out_47 s48p s48l s48c x49 x50 w) : Loop [.addr, .addr, .slice, (.int .i64), (.int .i64)] (F20_L2 k) a46 out_47 s48p s48l s48c x49 x50 w :=
  Loop_intro (ts := [.addr, .addr, .slice, (.int .i64), (.int .i64)]) (s := (a46, out_47, (s48p, s48l, s48c), x49, x50, ())) (fun s w => I s.1 s.2.1 s.2.2.1.1 s.2.2.1.2.1 s.2.2.1.2.2 s.2.2.2.1 s.2.2.2.2.1 w) (fun s w => μ s.1 s.2.1 s.2.2.1.1 s.2.2.1.2.1 s.2.2.1.2.2 s.2.2.2.1 s.2.2.2.2.1 w) h (fun s w h => hr s.1 s.2.1 s.2.2.1.1 s.2.2.1.2.1 s.2.2.1.2.2 s.2.2.2.1 s.2.2.2.2.1 w h)
def F20_J1 (k : Value → W) (q_33 : Option Addr) (s_34 : Addr) (a35 : Addr) (b36 : Bool) : W :=
 BIf b36 (
  Store1 (a35.add 0) (.slice none 0 0) <|
  Store1 (a35.add 1) (.int .i64 0) <|
  Store1 (a35.add 2) (.bool false) <|
  Store1 (a35.add 3) (.int .i64 (-1)) <|
  LoadT .slice (a35.add 0) fun s37p s37l s37c =>
  LoadT (.int .i64) (a35.add 1) fun x38 =>
  LoadT .bool (a35.add 2) fun b39 =>
  LoadT (.int .i64) (a35.add 3) fun x40 =>
  k (.agg #[.slice s37p s37l s37c, .int .i64 x38, .bool b39, .int .i64 x40])) (
  LoadT (.int .i64) (s_34.add 1) fun x41 =>
  CallT Go.Proofs.Tryd.prog 36 [.pointer q_33, .int .i64 x41] (.tup [(.one .slice), (.one .any)]) fun s42p s42l s42c v43 =>
  CallT Go.Proofs.Tryd.prog 32 [v43] (.s (.one (.int .i64))) fun x44 =>
  New [.slice none 0 0, .int .i64 0, .bool false, .int .i64 0] 46 fun n45 =>
  Store1 ⟨n45, 0, none⟩ (.slice none 0 0) <|
  Store1 ⟨n45, 1, none⟩ (.int .i64 0) <|
  Store1 ⟨n45, 2, none⟩ (.bool false) <|
  Store1 ⟨n45, 3, none⟩ (.int .i64 x44) <|
  Loop [.addr, .addr, .slice, (.int .i64), (.int .i64)] (F20_L2 k) a35 ⟨n45, 0, none⟩ s42p s42l s42c ((s42l : Nat) : Int) 0)
def F20 (k : Value → W) (q_1 : Option Addr) (x2 : Int) (x3 : Int) (s4p : Option Addr) (s4l : Nat) (s4c : Nat) : W :=
 New [.int .i64 x2, .int .i64 x3, .slice s4p s4l s4c] 40 fun n5 =>
 New [.slice none 0 0, .int .i64 0, .bool false, .int .i64 0] 46 fun n6 =>
 LoadT (.int .i64) ⟨n5, 0, none⟩ fun x7 =>
 BIf (x7 == 1) (
  LoadT .slice ⟨n5, 2, none⟩ fun s8p s8l s8c =>
  Loop [.ptr, .addr, .slice, .slice, (.int .i64), (.int .i64)] (F20_L1 k) q_1 ⟨n6, 0, none⟩ none 0 0 s8p s8l s8c ((s8l : Nat) : Int) 0) (
  BIf (x7 == 2) (
   LoadT (.int .i64) ⟨n5, 1, none⟩ fun x30 =>
   BIf (decide (x30 ≥ 1)) (
    CallT Go.Proofs.Tryd.prog 34 [.pointer q_1] (.s (.one .bool)) fun b31 =>
    BIf b31 (
     CallT Go.Proofs.Tryd.prog 35 [.pointer q_1] (.s (.one .bool)) fun b32 =>
     F20_J1 k q_1 ⟨n5, 0, none⟩ ⟨n6, 0, none⟩ (!b32)) (
     F20_J1 k q_1 ⟨n5, 0, none⟩ ⟨n6, 0, none⟩ false)) (
    F20_J1 k q_1 ⟨n5, 0, none⟩ ⟨n6, 0, none⟩ false)) (
   BIf (x7 == 3) (
    CallT Go.Proofs.Tryd.prog 37 [.pointer q_1] (.s (.one .any)) fun v67 =>
    RawS Go.Proofs.Tryd.prog (Instr.typeAssert v67 81 72 true) (.tup [(.agg [(.int .i64), (.int .i64)]), (.one .bool)]) fun x68 x69 b70 =>
    New [.int .i64 0, .int .i64 0] 72 fun n71 =>
    Store1 ⟨n71, 0, none⟩ (.int .i64 x68) <|
    Store1 ⟨n71, 1, none⟩ (.int .i64 x69) <|
    BIf b70 (
     LoadT (.int .i64) ⟨n71, 0, none⟩ fun x72 =>
     LoadT (.int .i64) ⟨n71, 1, none⟩ fun x73 =>
     RawT Go.Proofs.Tryd.prog (Instr.buildSlice 25 1 [(0, .agg #[.int .i64 x72, .int .i64 x73])].toArray) (.s (.one .slice)) fun s74p s74l s74c =>
     Store1 ⟨n6, 0, none⟩ (.slice s74p s74l s74c) <|
     Store1 ⟨n6, 1, none⟩ (.int .i64 0) <|
     Store1 ⟨n6, 2, none⟩ (.bool false) <|
     Store1 ⟨n6, 3, none⟩ (.int .i64 0) <|
     LoadT .slice ⟨n6, 0, none⟩ fun s75p s75l s75c =>
     LoadT (.int .i64) ⟨n6, 1, none⟩ fun x76 =>
     LoadT .bool ⟨n6, 2, none⟩ fun b77 =>
     LoadT (.int .i64) ⟨n6, 3, none⟩ fun x78 =>
     k (.agg #[.slice s75p s75l s75c, .int .i64 x76, .bool b77, .int .i64 x78])) (
     Store1 ⟨n6, 0, none⟩ (.slice none 0 0) <|
     Store1 ⟨n6, 1, none⟩ (.int .i64 0) <|
     Store1 ⟨n6, 2, none⟩ (.bool false) <|
     Store1 ⟨n6, 3, none⟩ (.int .i64 0) <|
     LoadT .slice ⟨n6, 0, none⟩ fun s79p s79l s79c =>
     LoadT (.int .i64) ⟨n6, 1, none⟩ fun x80 =>
     LoadT .bool ⟨n6, 2, none⟩ fun b81 =>
     LoadT (.int .i64) ⟨n6, 3, none⟩ fun x82 =>
     k (.agg #[.slice s79p s79l s79c, .int .i64 x80, .bool b81, .int .i64 x82]))) (
    BIf (x7 == 4) (
     CallT Go.Proofs.Tryd.prog 38 [.pointer q_1] (.s (.one (.int .i64))) fun x83 =>
     Store1 ⟨n6, 0, none⟩ (.slice none 0 0) <|
     Store1 ⟨n6, 1, none⟩ (.int .i64 x83) <|
     Store1 ⟨n6, 2, none⟩ (.bool false) <|
     Store1 ⟨n6, 3, none⟩ (.int .i64 0) <|
     LoadT .slice ⟨n6, 0, none⟩ fun s84p s84l s84c =>
     LoadT (.int .i64) ⟨n6, 1, none⟩ fun x85 =>
     LoadT .bool ⟨n6, 2, none⟩ fun b86 =>
     LoadT (.int .i64) ⟨n6, 3, none⟩ fun x87 =>
     k (.agg #[.slice s84p s84l s84c, .int .i64 x85, .bool b86, .int .i64 x87])) (
     BIf (x7 == 5) (
      CallT Go.Proofs.Tryd.prog 34 [.pointer q_1] (.s (.one .bool)) fun b88 =>
      Store1 ⟨n6, 0, none⟩ (.slice none 0 0) <|
      Store1 ⟨n6, 1, none⟩ (.int .i64 0) <|
      Store1 ⟨n6, 2, none⟩ (.bool b88) <|
      Store1 ⟨n6, 3, none⟩ (.int .i64 0) <|
      LoadT .slice ⟨n6, 0, none⟩ fun s89p s89l s89c =>
      LoadT (.int .i64) ⟨n6, 1, none⟩ fun x90 =>
      LoadT .bool ⟨n6, 2, none⟩ fun b91 =>
      LoadT (.int .i64) ⟨n6, 3, none⟩ fun x92 =>
      k (.agg #[.slice s89p s89l s89c, .int .i64 x90, .bool b91, .int .i64 x92])) (
      BIf (x7 == 6) (
       CallT Go.Proofs.Tryd.prog 39 [.pointer q_1] (.tup []) <|
       Store1 ⟨n6, 0, none⟩ (.slice none 0 0) <|
       Store1 ⟨n6, 1, none⟩ (.int .i64 0) <|
       Store1 ⟨n6, 2, none⟩ (.bool false) <|
       Store1 ⟨n6, 3, none⟩ (.int .i64 0) <|
       LoadT .slice ⟨n6, 0, none⟩ fun s93p s93l s93c =>
       LoadT (.int .i64) ⟨n6, 1, none⟩ fun x94 =>
       LoadT .bool ⟨n6, 2, none⟩ fun b95 =>
       LoadT (.int .i64) ⟨n6, 3, none⟩ fun x96 =>
       k (.agg #[.slice s93p s93l s93c, .int .i64 x94, .bool b95, .int .i64 x96])) (
       BIf (x7 == 7) (
        CallT Go.Proofs.Tryd.prog 35 [.pointer q_1] (.s (.one .bool)) fun b97 =>
        Store1 ⟨n6, 0, none⟩ (.slice none 0 0) <|
        Store1 ⟨n6, 1, none⟩ (.int .i64 0) <|
        Store1 ⟨n6, 2, none⟩ (.bool b97) <|
        Store1 ⟨n6, 3, none⟩ (.int .i64 0) <|
        LoadT .slice ⟨n6, 0, none⟩ fun s98p s98l s98c =>
        LoadT (.int .i64) ⟨n6, 1, none⟩ fun x99 =>
        LoadT .bool ⟨n6, 2, none⟩ fun b100 =>
        LoadT (.int .i64) ⟨n6, 3, none⟩ fun x101 =>
        k (.agg #[.slice s98p s98l s98c, .int .i64 x99, .bool b100, .int .i64 x101])) (
        Store1 ⟨n6, 0, none⟩ (.slice none 0 0) <|
        Store1 ⟨n6, 1, none⟩ (.int .i64 0) <|
        Store1 ⟨n6, 2, none⟩ (.bool false) <|
        Store1 ⟨n6, 3, none⟩ (.int .i64 0) <|
        LoadT .slice ⟨n6, 0, none⟩ fun s102p s102l s102c =>
        LoadT (.int .i64) ⟨n6, 1, none⟩ fun x103 =>
        LoadT .bool ⟨n6, 2, none⟩ fun b104 =>
        LoadT (.int .i64) ⟨n6, 3, none⟩ fun x105 =>
        k (.agg #[.slice s102p s102l s102c, .int .i64 x103, .bool b104, .int .i64 x105]))))))))
theorem F20_eq (k : Value → W) (q_1 : Option Addr) (x2 : Int) (x3 : Int) (s4p : Option Addr) (s4l : Nat) (s4c : Nat) : compF Go.Proofs.Tryd.prog Go.Proofs.Tryd.f20 [(5, [(0, .ptr), (4, .addr), (5, .slice), (20, .slice), (21, (.int .i64)), (22, (.int .i64))]), (16, [(4, .addr), (10, .addr), (63, .slice), (64, (.int .i64)), (65, (.int .i64))])] (Go.Proofs.Tryd.f20.body.getD .skip) [.pointer q_1, .agg #[.int .i64 x2, .int .i64 x3, .slice s4p s4l s4c]] k = F20 k q_1 x2 x3 s4p s4l s4c := by kernel_rfl
theorem F20_calls {q_1 : Option Addr} {x2 : Int} {x3 : Int} {s4p : Option Addr} {s4l : Nat} {s4c : Nat} {w : World} {R : Ending → World → Prop} (h : F20 (fun v w => R (.returned v) w) q_1 x2 x3 s4p s4l s4c w) : Calls Go.Proofs.Tryd.prog 20 #[.pointer q_1, .agg #[.int .i64 x2, .int .i64 x3, .slice s4p s4l s4c]] w R :=
  calls_of_compF noNum follows [(5, [(0, .ptr), (4, .addr), (5, .slice), (20, .slice), (21, (.int .i64)), (22, (.int .i64))]), (16, [(4, .addr), (10, .addr), (63, .slice), (64, (.int .i64)), (65, (.int .i64))])] (f := 20) (fn := Go.Proofs.Tryd.f20) (body := Go.Proofs.Tryd.f20.body.getD .skip) (args := [.pointer q_1, .agg #[.int .i64 x2, .int .i64 x3, .slice s4p s4l s4c]]) rfl rfl (Nat.le_of_ble_eq_true rfl) ((congrFun (F20_eq _ q_1 x2 x3 s4p s4l s4c) w).mpr h)
theorem F20_call {q_1 : Option Addr} {x2 : Int} {x3 : Int} {s4p : Option Addr} {s4l : Nat} {s4c : Nat} {w : World} {g : Fn W (RTy.leaves (.s (.agg [.slice, (.int .i64), .bool, (.int .i64)])))} (h : F20 (fun v => Back (.s (.agg [.slice, (.int .i64), .bool, (.int .i64)])) g (.returned v)) q_1 x2 x3 s4p s4l s4c w) : CallT Go.Proofs.Tryd.prog 20 [.pointer q_1, .agg #[.int .i64 x2, .int .i64 x3, .slice s4p s4l s4c]] (.s (.agg [.slice, (.int .i64), .bool, (.int .i64)])) g w := F20_calls h

/-! ## impl.PQRun -/
def F16_L1 (k : Value → W) (again10 : Option Addr → Option Addr → Nat → Nat → Option Addr → Nat → Nat → Int → Int → W) (q_5 : Option Addr) (out_6p : Option Addr) (out_6l : Nat) (out_6c : Nat) (s7p : Option Addr) (s7l : Nat) (s7c : Nat) (x8 : Int) (x9 : Int) : W :=
 BIf (decide (x9 < x8)) (
  NN s7p fun a11 =>
  Req (0 ≤ x9 ∧ x9 < ((s7l : Nat) : Int)) <|
  LoadT (.int .i64) ((a11.add (x9.toNat * 3)).add 0) fun x12 =>
  LoadT (.int .i64) ((a11.add (x9.toNat * 3)).add 1) fun x13 =>
  LoadT .slice ((a11.add (x9.toNat * 3)).add 2) fun s14p s14l s14c =>
  New [.int .i64 0, .int .i64 0, .slice none 0 0] 40 fun n15 =>
  Store1 ⟨n15, 0, none⟩ (.int .i64 x12) <|
  Store1 ⟨n15, 1, none⟩ (.int .i64 x13) <|
  Store1 ⟨n15, 2, none⟩ (.slice s14p s14l s14c) <|
  LoadT (.int .i64) ⟨n15, 0, none⟩ fun x16 =>
  LoadT (.int .i64) ⟨n15, 1, none⟩ fun x17 =>
  LoadT .slice ⟨n15, 2, none⟩ fun s18p s18l s18c =>
  CallT Go.Proofs.Tryd.prog 20 [.pointer q_5, .agg #[.int .i64 x16, .int .i64 x17, .slice s18p s18l s18c]] (.s (.agg [.slice, (.int .i64), .bool, (.int .i64)])) fun s19p s19l s19c x20 b21 x22 =>
  RawT Go.Proofs.Tryd.prog (Instr.buildSlice 43 1 [(0, .agg #[.slice s19p s19l s19c, .int .i64 x20, .bool b21, .int .i64 x22])].toArray) (.s (.one .slice)) fun s23p s23l s23c =>
  NextT Go.Proofs.Tryd.prog (builtin .append #[43, 43] 43 [false, false].toArray [.slice out_6p out_6l out_6c, .slice s23p s23l s23c].toArray) (.s (.one .slice)) fun s24p s24l s24c =>
  again10 q_5 s24p s24l s24c s7p s7l s7c x8 (addI .i64 x9 1)) (
  k (.slice out_6p out_6l out_6c))
theorem F16_L1_rule {k : Value → W} (I : Option Addr → Option Addr → Nat → Nat → Option Addr → Nat → Nat → Int → Int → W) (μ : Option Addr → Option Addr → Nat → Nat → Option Addr → Nat → Nat → Int → Int → World → Nat)
  (hr : ∀ (q_5 : Option Addr) (out_6p : Option Addr) (out_6l : Nat) (out_6c : Nat) (s7p : Option Addr) (s7l : Nat) (s7c : Nat) (x8 : Int) (x9 : Int) (w : World), I q_5 out_6p out_6l out_6c s7p s7l s7c x8 x9 w → F16_L1 k (fun q_5' out_6p' out_6l' out_6c' s7p' s7l' s7c' x8' x9' w' => I q_5' out_6p' out_6l' out_6c' s7p' s7l' s7c' x8' x9' w' ∧ μ q_5' out_6p' out_6l' out_6c' s7p' s7l' s7c' x8' x9' w' < μ q_5 out_6p out_6l out_6c s7p s7l s7c x8 x9 w) q_5 out_6p out_6l out_6c s7p s7l s7c x8 x9 w)
  {w : World} {q_5 : Option Addr} {out_6p : Option Addr} {out_6l : Nat} {out_6c : Nat} {s7p : Option Addr} {s7l : Nat} {s7c : Nat} {x8 : Int} {x9 : Int} (h : I q_5 out_6p out_6l out_6c s7p s7l s7c x8 x9 w) : Loop [.ptr, .slice, .slice, (.int .i64), (.int .i64)] (F16_L1 k) q_5 out_6p out_6l out_6c s7p s7l s7c x8 x9 w :=
  Loop_intro (ts := [.ptr, .slice, .slice, (.int .i64), (.int .i64)]) (s := (q_5, (out_6p, out_6l, out_6c), (s7p, s7l, s7c), x8, x9, ())) (fun s w => I s.1 s.2.1.1 s.2.1.2.1 s.2.1.2.2 s.2.2.1.1 s.2.2.1.2.1 s.2.2.1.2.2 s.2.2.2.1 s.2.2.2.2.1 w) (fun s w => μ s.1 s.2.1.1 s.2.1.2.1 s.2.1.2.2 s.2.2.1.1 s.2.2.1.2.1 s.2.2.1.2.2 s.2.2.2.1 s.2.2.2.2.1 w) h (fun s w h => hr s.1 s.2.1.1 s.2.1.2.1 s.2.1.2.2 s.2.2.1.1 s.2.2.1.2.1 s.2.2.1.2.2 s.2.2.2.1 s.2.2.2.2.1 w h)
def F16 (k : Value → W) (hint_1 : Int) (duplicates_2 : Bool) (steps_3p : Option Addr) (steps_3l : Nat) (steps_3c : Nat) : W :=
 CallT Go.Proofs.Tryd.prog 19 [.int .i64 hint_1, .bool duplicates_2] (.s (.one .ptr)) fun p4 =>
 Loop [.ptr, .slice, .slice, (.int .i64), (.int .i64)] (F16_L1 k) p4 none 0 0 steps_3p steps_3l steps_3c ((steps_3l : Nat) : Int) 0
theorem F16_eq (k : Value → W) (hint_1 : Int) (duplicates_2 : Bool) (steps_3p : Option Addr) (steps_3l : Nat) (steps_3c : Nat) : compF Go.Proofs.Tryd.prog Go.Proofs.Tryd.f16 [(4, [(7, .ptr), (8, .slice), (14, .slice), (15, (.int .i64)), (16, (.int .i64))])] (Go.Proofs.Tryd.f16.body.getD .skip) [.int .i64 hint_1, .bool duplicates_2, .slice steps_3p steps_3l steps_3c] k = F16 k hint_1 duplicates_2 steps_3p steps_3l steps_3c := by kernel_rfl
theorem F16_calls {hint_1 : Int} {duplicates_2 : Bool} {steps_3p : Option Addr} {steps_3l : Nat} {steps_3c : Nat} {w : World} {R : Ending → World → Prop} (h : F16 (fun v w => R (.returned v) w) hint_1 duplicates_2 steps_3p steps_3l steps_3c w) : Calls Go.Proofs.Tryd.prog 16 #[.int .i64 hint_1, .bool duplicates_2, .slice steps_3p steps_3l steps_3c] w R :=
  calls_of_compF noNum follows [(4, [(7, .ptr), (8, .slice), (14, .slice), (15, (.int .i64)), (16, (.int .i64))])] (f := 16) (fn := Go.Proofs.Tryd.f16) (body := Go.Proofs.Tryd.f16.body.getD .skip) (args := [.int .i64 hint_1, .bool duplicates_2, .slice steps_3p steps_3l steps_3c]) rfl rfl (Nat.le_of_ble_eq_true rfl) ((congrFun (F16_eq _ hint_1 duplicates_2 steps_3p steps_3l steps_3c) w).mpr h)
theorem F16_call {hint_1 : Int} {duplicates_2 : Bool} {steps_3p : Option Addr} {steps_3l : Nat} {steps_3c : Nat} {w : World} {g : Fn W (RTy.leaves (.s (.one .slice)))} (h : F16 (fun v => Back (.s (.one .slice)) g (.returned v)) hint_1 duplicates_2 steps_3p steps_3l steps_3c w) : CallT Go.Proofs.Tryd.prog 16 [.int .i64 hint_1, .bool duplicates_2, .slice steps_3p steps_3l steps_3c] (.s (.one .slice)) g w := F16_calls h

/-! ## laws.dxGot -/
def F12_L2 (k : Value → W) (again10 : Option Addr → Nat → Nat → Option Addr → Nat → Nat → Option Addr → Nat → Nat → Int → Int → W) (again28 : Option Addr → Nat → Nat → Option Addr → Nat → Nat → Int → Option Addr → Nat → Nat → Int → Int → Option Addr → Nat → Nat → Int → Int → W) (steps_19p : Option Addr) (steps_19l : Nat) (steps_19c : Nat) (out_20p : Option Addr) (out_20l : Nat) (out_20c : Nat) (i_21 : Int) (s22p : Option Addr) (s22l : Nat) (s22c : Nat) (x23 : Int) (x24 : Int) (s25p : Option Addr) (s25l : Nat) (s25c : Nat) (x26 : Int) (x27 : Int) : W :=
 BIf (decide (x27 < x26)) (
  NN s25p fun a29 =>
  Req (0 ≤ x27 ∧ x27 < ((s25l : Nat) : Int)) <|
  LoadT (.int .i64) ((a29.add (x27.toNat * 2)).add 0) fun x30 =>
  LoadT (.int .i64) ((a29.add (x27.toNat * 2)).add 1) fun x31 =>
  New [.int .i64 0, .int .i64 0] 28 fun n32 =>
  Store1 ⟨n32, 0, none⟩ (.int .i64 x30) <|
  Store1 ⟨n32, 1, none⟩ (.int .i64 x31) <|
  NN steps_19p fun a33 =>
  Req (0 ≤ i_21 ∧ i_21 < ((steps_19l : Nat) : Int)) <|
  LoadT (.int .i64) (a33.add (i_21.toNat * 3)) fun x34 =>
  BIf (x34 == 2) (
   LoadT (.int .i64) ⟨n32, 0, none⟩ fun x35 =>
   RawT Go.Proofs.Tryd.prog (Instr.buildSlice 29 1 [(0, .int .i64 x35)].toArray) (.s (.one .slice)) fun s36p s36l s36c =>
   NextT Go.Proofs.Tryd.prog (builtin .append #[29, 29] 29 [false, false].toArray [.slice out_20p out_20l out_20c, .slice s36p s36l s36c].toArray) (.s (.one .slice)) fun s37p s37l s37c =>
   again28 steps_19p steps_19l steps_19c s37p s37l s37c i_21 s22p s22l s22c x23 x24 s25p s25l s25c x26 (addI .i64 x27 1)) (
   again28 steps_19p steps_19l steps_19c out_20p out_20l out_20c i_21 s22p s22l s22c x23 x24 s25p s25l s25c x26 (addI .i64 x27 1))) (
  again10 steps_19p steps_19l steps_19c out_20p out_20l out_20c s22p s22l s22c x23 (addI .i64 x24 1))
theorem F12_L2_rule {k : Value → W} {again10 : Option Addr → Nat → Nat → Option Addr → Nat → Nat → Option Addr → Nat → Nat → Int → Int → W} (I : Option Addr → Nat → Nat → Option Addr → Nat → Nat → Int → Option Addr → Nat → Nat → Int → Int → Option Addr → Nat → Nat → Int → Int → W) (μ : Option Addr → Nat → Nat → Option Addr → Nat → Nat → Int → Option Addr → Nat → Nat → Int → Int → Option Addr → Nat → Nat → Int → Int → World → Nat)
  (hr : ∀ (steps_19p : Option Addr) (steps_19l : Nat) (steps_19c : Nat) (out_20p : Option Addr) (out_20l : Nat) (out_20c : Nat) (i_21 : Int) (s22p : Option Addr) (s22l : Nat) (s22c : Nat) (x23 : Int) (x24 : Int) (s25p : Option Addr) (s25l : Nat) (s25c : Nat) (x26 : Int) (x27 : Int) (w : World), I steps_19p steps_19l steps_19c out_20p out_20l out_20c i_21 s22p s22l s22c x23 x24 s25p s25l s25c x26 x27 w → F12_L2 k again10 (fun steps_19p' steps_19l' steps_19c' out_20p' out_20l' out_20c' i_21' s22p' s22l' s22c' x23' x24' s25p' s25l' s25c' x26' x27' w' => I steps_19p' steps_19l' steps_19c' out_20p' out_20l' out_20c' i_21' s22p' s22l' s22c' x23' x24' s25p' s25l' s25c' x26' x27' w' ∧ μ steps_19p' steps_19l' steps_19c' out_20p' out_20l' out_20c' i_21' s22p' s22l' s22c' x23' x24' s25p' s25l' s25c' x26' x27' w' < μ steps_19p steps_19l steps_19c out_20p out_20l out_20c i_21 s22p s22l s22c x23 x24 s25p s25l s25c x26 x27 w) steps_19p steps_19l steps_19c out_20p out_20l out_20c i_21 s22p s22l s22c x23 x24 s25p s25l s25c x26 x27 w)
  {w : World} {steps_19p : Option Addr} {steps_19l : Nat} {steps_19c : Nat} {out_20p : Option Addr} {out_20l : Nat} {out_20c : Nat} {i_21 : Int} {s22p : Option Addr} {s22l : Nat} {s22c : Nat} {x23 : Int} {x24 : Int} {s25p : Option Addr} {s25l : Nat} {s25c : Nat} {x26 : Int} {x27 : Int} (h : I steps_19p steps_19l steps_19c out_20p out_20l out_20c i_21 s22p s22l s22c x23 x24 s25p s25l s25c x26 x27 w) : Loop [.slice, .slice, (.int .i64), .slice, (.int .i64), (.int .i64), .slice, (.int .i64), (.int .i64)] (F12_L2 k again10) steps_19p steps_19l steps_19c out_20p out_20l out_20c i_21 s22p s22l s22c x23 x24 s25p s25l s25c x26 x27 w :=
  Loop_intro (ts := [.slice, .slice, (.int .i64), .slice, (.int .i64), (.int .i64), .slice, (.int .i64), (.int .i64)]) (s := ((steps_19p, steps_19l, steps_19c), (out_20p, out_20l, out_20c), i_21, (s22p, s22l, s22c), x23, x24, (s25p, s25l, s25c), x26, x27, ())) (fun s w => I s.1.1 s.1.2.1 s.1.2.2 s.2.1.1 s.2.1.2.1 s.2.1.2.2 s.2.2.1 s.2.2.2.1.1 s.2.2.2.1.2.1 s.2.2.2.1.2.2 s.2.2.2.2.1 s.2.2.2.2.2.1 s.2.2.2.2.2.2.1.1 s.2.2.2.2.2.2.1.2.1 s.2.2.2.2.2.2.1.2.2 s.2.2.2.2.2.2.2.1 s.2.2.2.2.2.2.2.2.1 w) (fun s w => μ s.1.1 s.1.2.1 s.1.2.2 s.2.1.1 s.2.1.2.1 s.2.1.2.2 s.2.2.1 s.2.2.2.1.1 s.2.2.2.1.2.1 s.2.2.2.1.2.2 s.2.2.2.2.1 s.2.2.2.2.2.1 s.2.2.2.2.2.2.1.1 s.2.2.2.2.2.2.1.2.1 s.2.2.2.2.2.2.1.2.2 s.2.2.2.2.2.2.2.1 s.2.2.2.2.2.2.2.2.1 w) h (fun s w h => hr s.1.1 s.1.2.1 s.1.2.2 s.2.1.1 s.2.1.2.1 s.2.1.2.2 s.2.2.1 s.2.2.2.1.1 s.2.2.2.1.2.1 s.2.2.2.1.2.2 s.2.2.2.2.1 s.2.2.2.2.2.1 s.2.2.2.2.2.2.1.1 s.2.2.2.2.2.2.1.2.1 s.2.2.2.2.2.2.1.2.2 s.2.2.2.2.2.2.2.1 s.2.2.2.2.2.2.2.2.1 w h)
def F12_L1 (k : Value → W) (again10 : Option Addr → Nat → Nat → Option Addr → Nat → Nat → Option Addr → Nat → Nat → Int → Int → W) (steps_5p : Option Addr) (steps_5l : Nat) (steps_5c : Nat) (out_6p : Option Addr) (out_6l : Nat) (out_6c : Nat) (s7p : Option Addr) (s7l : Nat) (s7c : Nat) (x8 : Int) (x9 : Int) : W :=
 BIf (decide (x9 < x8)) (
  NN s7p fun a11 =>
  Req (0 ≤ x9 ∧ x9 < ((s7l : Nat) : Int)) <|
  LoadT .slice ((a11.add (x9.toNat * 4)).add 0) fun s12p s12l s12c =>
  LoadT (.int .i64) ((a11.add (x9.toNat * 4)).add 1) fun x13 =>
  LoadT .bool ((a11.add (x9.toNat * 4)).add 2) fun b14 =>
  LoadT (.int .i64) ((a11.add (x9.toNat * 4)).add 3) fun x15 =>
  New [.slice none 0 0, .int .i64 0, .bool false, .int .i64 0] 46 fun n16 =>
  Store1 ⟨n16, 0, none⟩ (.slice s12p s12l s12c) <|
  Store1 ⟨n16, 1, none⟩ (.int .i64 x13) <|
  Store1 ⟨n16, 2, none⟩ (.bool b14) <|
  Store1 ⟨n16, 3, none⟩ (.int .i64 x15) <|
  LoadT (.int .i64) ⟨n16, 3, none⟩ fun x17 =>
  BIf (x17 != 0) (
   k (.tuple #[.slice none 0 0, .bool false])) (
   LoadT .slice ⟨n16, 0, none⟩ fun s18p s18l s18c =>
   Loop [.slice, .slice, (.int .i64), .slice, (.int .i64), (.int .i64), .slice, (.int .i64), (.int .i64)] (F12_L2 k again10) steps_5p steps_5l steps_5c out_6p out_6l out_6c x9 s7p s7l s7c x8 x9 s18p s18l s18c ((s18l : Nat) : Int) 0)) (
  k (.tuple #[.slice out_6p out_6l out_6c, .bool true]))
theorem F12_L1_rule {k : Value → W} (I : Option Addr → Nat → Nat → Option Addr → Nat → Nat → Option Addr → Nat → Nat → Int → Int → W) (μ : Option Addr → Nat → Nat → Option Addr → Nat → Nat → Option Addr → Nat → Nat → Int → Int → World → Nat)
  (hr : ∀ (steps_5p : Option Addr) (steps_5l : Nat) (steps_5c : Nat) (out_6p : Option Addr) (out_6l : Nat) (out_6c : Nat) (s7p : Option Addr) (s7l : Nat) (s7c : Nat) (x8 : Int) (x9 : Int) (w : World), I steps_5p steps_5l steps_5c out_6p out_6l out_6c s7p s7l s7c x8 x9 w → F12_L1 k (fun steps_5p' steps_5l' steps_5c' out_6p' out_6l' out_6c' s7p' s7l' s7c' x8' x9' w' => I steps_5p' steps_5l' steps_5c' out_6p' out_6l' out_6c' s7p' s7l' s7c' x8' x9' w' ∧ μ steps_5p' steps_5l' steps_5c' out_6p' out_6l' out_6c' s7p' s7l' s7c' x8' x9' w' < μ steps_5p steps_5l steps_5c out_6p out_6l out_6c s7p s7l s7c x8 x9 w) steps_5p steps_5l steps_5c out_6p out_6l out_6c s7p s7l s7c x8 x9 w)
  {w : World} {steps_5p : Option Addr} {steps_5l : Nat} {steps_5c : Nat} {out_6p : Option Addr} {out_6l : Nat} {out_6c : Nat} {s7p : Option Addr} {s7l : Nat} {s7c : Nat} {x8 : Int} {x9 : Int} (h : I steps_5p steps_5l steps_5c out_6p out_6l out_6c s7p s7l s7c x8 x9 w) : Loop [.slice, .slice, .slice, (.int .i64), (.int .i64)] (F12_L1 k) steps_5p steps_5l steps_5c out_6p out_6l out_6c s7p s7l s7c x8 x9 w :=
  Loop_intro (ts := [.slice, .slice, .slice, (.int .i64), (.int .i64)]) (s := ((steps_5p, steps_5l, steps_5c), (out_6p, out_6l, out_6c), (s7p, s7l, s7c), x8, x9, ())) (fun s w => I s.1.1 s.1.2.1 s.1.2.2 s.2.1.1 s.2.1.2.1 s.2.1.2.2 s.2.2.1.1 s.2.2.1.2.1 s.2.2.1.2.2 s.2.2.2.1 s.2.2.2.2.1 w) (fun s w => μ s.1.1 s.1.2.1 s.1.2.2 s.2.1.1 s.2.1.2.1 s.2.1.2.2 s.2.2.1.1 s.2.2.1.2.1 s.2.2.1.2.2 s.2.2.2.1 s.2.2.2.2.1 w) h (fun s w h => hr s.1.1 s.1.2.1 s.1.2.2 s.2.1.1 s.2.1.2.1 s.2.1.2.2 s.2.2.1.1 s.2.2.1.2.1 s.2.2.1.2.2 s.2.2.2.1 s.2.2.2.2.1 w h)
def F12 (k : Value → W) (hint_1 : Int) (duplicates_2 : Bool) (steps_3p : Option Addr) (steps_3l : Nat) (steps_3c : Nat) : W :=
 CallT Go.Proofs.Tryd.prog 16 [.int .i64 hint_1, .bool duplicates_2, .slice steps_3p steps_3l steps_3c] (.s (.one .slice)) fun s4p s4l s4c =>
 BIf (((s4l : Nat) : Int) != ((steps_3l : Nat) : Int)) (
  k (.tuple #[.slice none 0 0, .bool false])) (
  Loop [.slice, .slice, .slice, (.int .i64), (.int .i64)] (F12_L1 k) steps_3p steps_3l steps_3c none 0 0 s4p s4l s4c ((s4l : Nat) : Int) 0)
theorem F12_eq (k : Value → W) (hint_1 : Int) (duplicates_2 : Bool) (steps_3p : Option Addr) (steps_3l : Nat) (steps_3c : Nat) : compF Go.Proofs.Tryd.prog Go.Proofs.Tryd.f12 [(6, [(2, .slice), (9, .slice), (23, .slice), (24, (.int .i64)), (25, (.int .i64))]), (11, [(2, .slice), (9, .slice), (10, (.int .i64)), (23, .slice), (24, (.int .i64)), (25, (.int .i64)), (34, .slice), (35, (.int .i64)), (36, (.int .i64))])] (Go.Proofs.Tryd.f12.body.getD .skip) [.int .i64 hint_1, .bool duplicates_2, .slice steps_3p steps_3l steps_3c] k = F12 k hint_1 duplicates_2 steps_3p steps_3l steps_3c := by kernel_rfl
theorem F12_calls {hint_1 : Int} {duplicates_2 : Bool} {steps_3p : Option Addr} {steps_3l : Nat} {steps_3c : Nat} {w : World} {R : Ending → World → Prop} (h : F12 (fun v w => R (.returned v) w) hint_1 duplicates_2 steps_3p steps_3l steps_3c w) : Calls Go.Proofs.Tryd.prog 12 #[.int .i64 hint_1, .bool duplicates_2, .slice steps_3p steps_3l steps_3c] w R :=
  calls_of_compF noNum follows [(6, [(2, .slice), (9, .slice), (23, .slice), (24, (.int .i64)), (25, (.int .i64))]), (11, [(2, .slice), (9, .slice), (10, (.int .i64)), (23, .slice), (24, (.int .i64)), (25, (.int .i64)), (34, .slice), (35, (.int .i64)), (36, (.int .i64))])] (f := 12) (fn := Go.Proofs.Tryd.f12) (body := Go.Proofs.Tryd.f12.body.getD .skip) (args := [.int .i64 hint_1, .bool duplicates_2, .slice steps_3p steps_3l steps_3c]) rfl rfl (Nat.le_of_ble_eq_true rfl) ((congrFun (F12_eq _ hint_1 duplicates_2 steps_3p steps_3l steps_3c) w).mpr h)
theorem F12_call {hint_1 : Int} {duplicates_2 : Bool} {steps_3p : Option Addr} {steps_3l : Nat} {steps_3c : Nat} {w : World} {g : Fn W (RTy.leaves (.tup [(.one .slice), (.one .bool)]))} (h : F12 (fun v => Back (.tup [(.one .slice), (.one .bool)]) g (.returned v)) hint_1 duplicates_2 steps_3p steps_3l steps_3c w) : CallT Go.Proofs.Tryd.prog 12 [.int .i64 hint_1, .bool duplicates_2, .slice steps_3p steps_3l steps_3c] (.tup [(.one .slice), (.one .bool)]) g w := F12_calls h

/-! ## slices.Equal[[]int,int] -/
def F13_L1 (k : Value → W) (again7 : Option Addr → Nat → Nat → Option Addr → Nat → Nat → Int → Int → W) (s1_3p : Option Addr) (s1_3l : Nat) (s1_3c : Nat) (s2_4p : Option Addr) (s2_4l : Nat) (s2_4c : Nat) (x5 : Int) (x6 : Int) : W :=
 BIf (decide (x6 < x5)) (
  Drw <|
  NN s1_3p fun a8 =>
  Req (0 ≤ x6 ∧ x6 < ((s1_3l : Nat) : Int)) <|
  LoadT (.int .i64) (a8.add x6.toNat) fun x9 =>
  NN s2_4p fun a10 =>
  Req (0 ≤ x6 ∧ x6 < ((s2_4l : Nat) : Int)) <|
  LoadT (.int .i64) (a10.add x6.toNat) fun x11 =>
  BIf (x9 != x11) (
   k (.bool false)) (
   again7 s1_3p s1_3l s1_3c s2_4p s2_4l s2_4c x5 (addI .i64 x6 1))) (
  k (.bool true))
theorem F13_L1_rule {k : Value → W} (I : Option Addr → Nat → Nat → Option Addr → Nat → Nat → Int → Int → W) (μ : Option Addr → Nat → Nat → Option Addr → Nat → Nat → Int → Int → World → Nat)
  (hr : ∀ (s1_3p : Option Addr) (s1_3l : Nat) (s1_3c : Nat) (s2_4p : Option Addr) (s2_4l : Nat) (s2_4c : Nat) (x5 : Int) (x6 : Int) (w : World), I s1_3p s1_3l s1_3c s2_4p s2_4l s2_4c x5 x6 w → F13_L1 k (fun s1_3p' s1_3l' s1_3c' s2_4p' s2_4l' s2_4c' x5' x6' w' => I s1_3p' s1_3l' s1_3c' s2_4p' s2_4l' s2_4c' x5' x6' w' ∧ μ s1_3p' s1_3l' s1_3c' s2_4p' s2_4l' s2_4c' x5' x6' w' < μ s1_3p s1_3l s1_3c s2_4p s2_4l s2_4c x5 x6 w) s1_3p s1_3l s1_3c s2_4p s2_4l s2_4c x5 x6 w)
  {w : World} {s1_3p : Option Addr} {s1_3l : Nat} {s1_3c : Nat} {s2_4p : Option Addr} {s2_4l : Nat} {s2_4c : Nat} {x5 : Int} {x6 : Int} (h : I s1_3p s1_3l s1_3c s2_4p s2_4l s2_4c x5 x6 w) : Loop [.slice, .slice, (.int .i64), (.int .i64)] (F13_L1 k) s1_3p s1_3l s1_3c s2_4p s2_4l s2_4c x5 x6 w :=
  Loop_intro (ts := [.slice, .slice, (.int .i64), (.int .i64)]) (s := ((s1_3p, s1_3l, s1_3c), (s2_4p, s2_4l, s2_4c), x5, x6, ())) (fun s w => I s.1.1 s.1.2.1 s.1.2.2 s.2.1.1 s.2.1.2.1 s.2.1.2.2 s.2.2.1 s.2.2.2.1 w) (fun s w => μ s.1.1 s.1.2.1 s.1.2.2 s.2.1.1 s.2.1.2.1 s.2.1.2.2 s.2.2.1 s.2.2.2.1 w) h (fun s w h => hr s.1.1 s.1.2.1 s.1.2.2 s.2.1.1 s.2.1.2.1 s.2.1.2.2 s.2.2.1 s.2.2.2.1 w h)
def F13 (k : Value → W) (s1_1p : Option Addr) (s1_1l : Nat) (s1_1c : Nat) (s2_2p : Option Addr) (s2_2l : Nat) (s2_2c : Nat) : W :=
 BIf (((s1_1l : Nat) : Int) != ((s2_2l : Nat) : Int)) (
  k (.bool false)) (
  Loop [.slice, .slice, (.int .i64), (.int .i64)] (F13_L1 k) s1_1p s1_1l s1_1c s2_2p s2_2l s2_2c ((s1_1l : Nat) : Int) 0)
theorem F13_eq (k : Value → W) (s1_1p : Option Addr) (s1_1l : Nat) (s1_1c : Nat) (s2_2p : Option Addr) (s2_2l : Nat) (s2_2c : Nat) : compF Go.Proofs.Tryd.prog Go.Proofs.Tryd.f13 [(4, [(0, .slice), (1, .slice), (12, (.int .i64)), (13, (.int .i64))])] (Go.Proofs.Tryd.f13.body.getD .skip) [.slice s1_1p s1_1l s1_1c, .slice s2_2p s2_2l s2_2c] k = F13 k s1_1p s1_1l s1_1c s2_2p s2_2l s2_2c := by kernel_rfl
theorem F13_calls {s1_1p : Option Addr} {s1_1l : Nat} {s1_1c : Nat} {s2_2p : Option Addr} {s2_2l : Nat} {s2_2c : Nat} {w : World} {R : Ending → World → Prop} (h : F13 (fun v w => R (.returned v) w) s1_1p s1_1l s1_1c s2_2p s2_2l s2_2c w) : Calls Go.Proofs.Tryd.prog 13 #[.slice s1_1p s1_1l s1_1c, .slice s2_2p s2_2l s2_2c] w R :=
  calls_of_compF noNum follows [(4, [(0, .slice), (1, .slice), (12, (.int .i64)), (13, (.int .i64))])] (f := 13) (fn := Go.Proofs.Tryd.f13) (body := Go.Proofs.Tryd.f13.body.getD .skip) (args := [.slice s1_1p s1_1l s1_1c, .slice s2_2p s2_2l s2_2c]) rfl rfl (Nat.le_of_ble_eq_true rfl) ((congrFun (F13_eq _ s1_1p s1_1l s1_1c s2_2p s2_2l s2_2c) w).mpr h)
theorem F13_call {s1_1p : Option Addr} {s1_1l : Nat} {s1_1c : Nat} {s2_2p : Option Addr} {s2_2l : Nat} {s2_2c : Nat} {w : World} {g : Fn W (RTy.leaves (.s (.one .bool)))} (h : F13 (fun v => Back (.s (.one .bool)) g (.returned v)) s1_1p s1_1l s1_1c s2_2p s2_2l s2_2c w) : CallT Go.Proofs.Tryd.prog 13 [.slice s1_1p s1_1l s1_1c, .slice s2_2p s2_2l s2_2c] (.s (.one .bool)) g w := F13_calls h

/-! ## laws.dxQueue -/
def F7 (k : Value → W) (l_1p : Option Addr) (l_1l : Nat) (l_1c : Nat) : W :=
 RawT Go.Proofs.Tryd.prog (Instr.buildSlice 25 2 [(0, .agg #[.int .i64 5, .int .i64 0]), (1, .agg #[.int .i64 3, .int .i64 1])].toArray) (.s (.one .slice)) fun s2p s2l s2c =>
 RawT Go.Proofs.Tryd.prog (Instr.buildSlice 33 2 [(0, .agg #[.int .i64 1, .int .i64 0, .slice s2p s2l s2c]), (1, .agg #[.int .i64 2, .int .i64 9, .slice none 0 0])].toArray) (.s (.one .slice)) fun s3p s3l s3c =>
 CallT Go.Proofs.Tryd.prog 12 [.int .i64 0, .bool true, .slice s3p s3l s3c] (.tup [(.one .slice), (.one .bool)]) fun s4p s4l s4c b5 =>
 CallT Go.Proofs.Tryd.prog 11 [.slice l_1p l_1l l_1c, .int .i64 ((l_1l : Nat) : Int)] (.s (.one .slice)) fun s6p s6l s6c =>
 CallT Go.Proofs.Tryd.prog 10 [.slice s6p s6l s6c, .int .i64 1000] (.s (.one .slice)) fun s7p s7l s7c =>
 CallT Go.Proofs.Tryd.prog 12 [.int .i64 0, .bool true, .slice s7p s7l s7c] (.tup [(.one .slice), (.one .bool)]) fun s8p s8l s8c b9 =>
 BIf b5 (
  BIf b9 (
   RawT Go.Proofs.Tryd.prog (Instr.buildSlice 29 2 [(0, .int .i64 3), (1, .int .i64 5)].toArray) (.s (.one .slice)) fun s10p s10l s10c =>
   CallT Go.Proofs.Tryd.prog 13 [.slice s4p s4l s4c, .slice s10p s10l s10c] (.s (.one .bool)) fun b11 =>
   k (.tuple #[.slice s8p s8l s8c, .bool b11])) (
   k (.tuple #[.slice s8p s8l s8c, .bool false]))) (
  k (.tuple #[.slice s8p s8l s8c, .bool false]))
theorem F7_eq (k : Value → W) (l_1p : Option Addr) (l_1l : Nat) (l_1c : Nat) : compF Go.Proofs.Tryd.prog Go.Proofs.Tryd.f7 [] (Go.Proofs.Tryd.f7.body.getD .skip) [.slice l_1p l_1l l_1c] k = F7 k l_1p l_1l l_1c := by kernel_rfl
theorem F7_calls {l_1p : Option Addr} {l_1l : Nat} {l_1c : Nat} {w : World} {R : Ending → World → Prop} (h : F7 (fun v w => R (.returned v) w) l_1p l_1l l_1c w) : Calls Go.Proofs.Tryd.prog 7 #[.slice l_1p l_1l l_1c] w R :=
  calls_of_compF noNum follows [] (f := 7) (fn := Go.Proofs.Tryd.f7) (body := Go.Proofs.Tryd.f7.body.getD .skip) (args := [.slice l_1p l_1l l_1c]) rfl rfl (Nat.le_of_ble_eq_true rfl) ((congrFun (F7_eq _ l_1p l_1l l_1c) w).mpr h)
theorem F7_call {l_1p : Option Addr} {l_1l : Nat} {l_1c : Nat} {w : World} {g : Fn W (RTy.leaves (.tup [(.one .slice), (.one .bool)]))} (h : F7 (fun v => Back (.tup [(.one .slice), (.one .bool)]) g (.returned v)) l_1p l_1l l_1c w) : CallT Go.Proofs.Tryd.prog 7 [.slice l_1p l_1l l_1c] (.tup [(.one .slice), (.one .bool)]) g w := F7_calls h

/-! ## slices.Clone[[]int,int] -/
def F9 (k : Value → W) (s_1p : Option Addr) (s_1l : Nat) (s_1c : Nat) : W :=
 BIf s_1p.isNone (
  k (.slice none 0 0)) (
  RawT Go.Proofs.Tryd.prog (Instr.buildSlice 29 0 [].toArray) (.s (.one .slice)) fun s2p s2l s2c =>
  NextT Go.Proofs.Tryd.prog (builtin .append #[29, 29] 29 [false, false].toArray [.slice s2p s2l s2c, .slice s_1p s_1l s_1c].toArray) (.s (.one .slice)) fun s3p s3l s3c =>
  k (.slice s3p s3l s3c))
theorem F9_eq (k : Value → W) (s_1p : Option Addr) (s_1l : Nat) (s_1c : Nat) : compF Go.Proofs.Tryd.prog Go.Proofs.Tryd.f9 [] (Go.Proofs.Tryd.f9.body.getD .skip) [.slice s_1p s_1l s_1c] k = F9 k s_1p s_1l s_1c := by kernel_rfl
theorem F9_calls {s_1p : Option Addr} {s_1l : Nat} {s_1c : Nat} {w : World} {R : Ending → World → Prop} (h : F9 (fun v w => R (.returned v) w) s_1p s_1l s_1c w) : Calls Go.Proofs.Tryd.prog 9 #[.slice s_1p s_1l s_1c] w R :=
  calls_of_compF noNum follows [] (f := 9) (fn := Go.Proofs.Tryd.f9) (body := Go.Proofs.Tryd.f9.body.getD .skip) (args := [.slice s_1p s_1l s_1c]) rfl rfl (Nat.le_of_ble_eq_true rfl) ((congrFun (F9_eq _ s_1p s_1l s_1c) w).mpr h)
theorem F9_call {s_1p : Option Addr} {s_1l : Nat} {s_1c : Nat} {w : World} {g : Fn W (RTy.leaves (.s (.one .slice)))} (h : F9 (fun v => Back (.s (.one .slice)) g (.returned v)) s_1p s_1l s_1c w) : CallT Go.Proofs.Tryd.prog 9 [.slice s_1p s_1l s_1c] (.s (.one .slice)) g w := F9_calls h

/-! ## laws.dxSorted -/
def F8 (k : Value → W) (l_1p : Option Addr) (l_1l : Nat) (l_1c : Nat) : W :=
 CallT Go.Proofs.Tryd.prog 9 [.slice l_1p l_1l l_1c] (.s (.one .slice)) fun s2p s2l s2c =>
 CallT Go.Proofs.Tryd.prog 14 [.slice s2p s2l s2c] (.tup []) <|
 k (.slice s2p s2l s2c)
theorem F8_eq (k : Value → W) (l_1p : Option Addr) (l_1l : Nat) (l_1c : Nat) : compF Go.Proofs.Tryd.prog Go.Proofs.Tryd.f8 [] (Go.Proofs.Tryd.f8.body.getD .skip) [.slice l_1p l_1l l_1c] k = F8 k l_1p l_1l l_1c := by kernel_rfl
theorem F8_calls {l_1p : Option Addr} {l_1l : Nat} {l_1c : Nat} {w : World} {R : Ending → World → Prop} (h : F8 (fun v w => R (.returned v) w) l_1p l_1l l_1c w) : Calls Go.Proofs.Tryd.prog 8 #[.slice l_1p l_1l l_1c] w R :=
  calls_of_compF noNum follows [] (f := 8) (fn := Go.Proofs.Tryd.f8) (body := Go.Proofs.Tryd.f8.body.getD .skip) (args := [.slice l_1p l_1l l_1c]) rfl rfl (Nat.le_of_ble_eq_true rfl) ((congrFun (F8_eq _ l_1p l_1l l_1c) w).mpr h)
theorem F8_call {l_1p : Option Addr} {l_1l : Nat} {l_1c : Nat} {w : World} {g : Fn W (RTy.leaves (.s (.one .slice)))} (h : F8 (fun v => Back (.s (.one .slice)) g (.returned v)) l_1p l_1l l_1c w) : CallT Go.Proofs.Tryd.prog 8 [.slice l_1p l_1l l_1c] (.s (.one .slice)) g w := F8_calls h

/-! ## laws.FnPQMore -/
def F3_J4 (k : Value → W) (x_72 : Addr) (is_73 : Bool) (want_74p : Option Addr) (want_74l : Nat) (want_74c : Nat) (one_75p : Option Addr) (one_75l : Nat) (one_75c : Nat) (right_76 : Bool) (two_77p : Option Addr) (two_77l : Nat) (two_77c : Nat) (fine_78 : Bool) (c_79p : Option Addr) (c_79l : Nat) (c_79c : Nat) : W :=
 LoadT (.int .i64) (x_72.add 0) fun x80 =>
 LoadT (.int .i64) (x_72.add 1) fun x81 =>
 RawT Go.Proofs.Tryd.prog (Instr.buildSlice 25 1 [(0, .agg #[.int .i64 x80, .int .i64 x81])].toArray) (.s (.one .slice)) fun s82p s82l s82c =>
 CallT Go.Proofs.Tryd.prog 11 [.slice s82p s82l s82c, .int .i64 1] (.s (.one .slice)) fun s83p s83l s83c =>
 NextT Go.Proofs.Tryd.prog (builtin .append #[33, 33] 33 [false, false].toArray [.slice c_79p c_79l c_79c, .slice s83p s83l s83c].toArray) (.s (.one .slice)) fun s84p s84l s84c =>
 CallT Go.Proofs.Tryd.prog 10 [.slice s84p s84l s84c, .int .i64 1000] (.s (.one .slice)) fun s85p s85l s85c =>
 CallT Go.Proofs.Tryd.prog 12 [.int .i64 0, .bool true, .slice s85p s85l s85c] (.tup [(.one .slice), (.one .bool)]) fun s86p s86l s86c b87 =>
 BIf is_73 (
  BIf right_76 (
   BIf fine_78 (
    BIf b87 (
     CallT Go.Proofs.Tryd.prog 13 [.slice one_75p one_75l one_75c, .slice want_74p want_74l want_74c] (.s (.one .bool)) fun b88 =>
     BIf b88 (
      CallT Go.Proofs.Tryd.prog 13 [.slice two_77p two_77l two_77c, .slice want_74p want_74l want_74c] (.s (.one .bool)) fun b89 =>
      BIf b89 (
       CallT Go.Proofs.Tryd.prog 13 [.slice s86p s86l s86c, .slice want_74p want_74l want_74c] (.s (.one .bool)) fun b90 =>
       k (.bool b90)) (
       k (.bool false))) (
      k (.bool false))) (
     k (.bool false))) (
    k (.bool false))) (
   k (.bool false))) (
  k (.bool false))
def F3_J3 (k : Value → W) (items_61p : Option Addr) (items_61l : Nat) (items_61c : Nat) (x_62 : Addr) (is_63 : Bool) (want_64p : Option Addr) (want_64l : Nat) (want_64c : Nat) (one_65p : Option Addr) (one_65l : Nat) (one_65c : Nat) (right_66 : Bool) (two_67p : Option Addr) (two_67l : Nat) (two_67c : Nat) (fine_68 : Bool) (n_69 : Int) : W :=
 CallT Go.Proofs.Tryd.prog 11 [.slice items_61p items_61l items_61c, .int .i64 30] (.s (.one .slice)) fun s70p s70l s70c =>
 BIf (decide (n_69 > 0)) (
  CallT Go.Proofs.Tryd.prog 10 [.slice s70p s70l s70c, .int .i64 n_69] (.s (.one .slice)) fun s71p s71l s71c =>
  F3_J4 k x_62 is_63 want_64p want_64l want_64c one_65p one_65l one_65c right_66 two_67p two_67l two_67c fine_68 s71p s71l s71c) (
  F3_J4 k x_62 is_63 want_64p want_64l want_64c one_65p one_65l one_65c right_66 two_67p two_67l two_67c fine_68 s70p s70l s70c)
def F3_L1 (k : Value → W) (again57 : Int → Option Addr → Nat → Nat → Addr → Option Addr → Nat → Nat → Bool → Option Addr → Nat → Nat → Option Addr → Nat → Nat → Bool → Option Addr → Nat → Nat → Bool → Int → W) (first_46 : Int) (items_47p : Option Addr) (items_47l : Nat) (items_47c : Nat) (x_48 : Addr) (without_49p : Option Addr) (without_49l : Nat) (without_49c : Nat) (is_50 : Bool) (want_51p : Option Addr) (want_51l : Nat) (want_51c : Nat) (one_52p : Option Addr) (one_52l : Nat) (one_52c : Nat) (right_53 : Bool) (two_54p : Option Addr) (two_54l : Nat) (two_54c : Nat) (fine_55 : Bool) (n_56 : Int) : W :=
 Drw <|
 BIf (decide (n_56 < ((without_49l : Nat) : Int))) (
  Req (32 ≠ (0 : Int)) <|
  BIf (decide (n_56 < (remI (IntKind.wrap .i64 first_46) 32))) (
   NN without_49p fun a58 =>
   Req (0 ≤ n_56 ∧ n_56 < ((without_49l : Nat) : Int)) <|
   LoadT (.int .i64) (a58.add n_56.toNat) fun x59 =>
   LoadT (.int .i64) x_48 fun x60 =>
   BIf (decide (x59 ≤ x60)) (
    again57 first_46 items_47p items_47l items_47c x_48 without_49p without_49l without_49c is_50 want_51p want_51l want_51c one_52p one_52l one_52c right_53 two_54p two_54l two_54c fine_55 (addI .i64 n_56 1)) (
    F3_J3 k items_47p items_47l items_47c x_48 is_50 want_51p want_51l want_51c one_52p one_52l one_52c right_53 two_54p two_54l two_54c fine_55 n_56)) (
   F3_J3 k items_47p items_47l items_47c x_48 is_50 want_51p want_51l want_51c one_52p one_52l one_52c right_53 two_54p two_54l two_54c fine_55 n_56)) (
  F3_J3 k items_47p items_47l items_47c x_48 is_50 want_51p want_51l want_51c one_52p one_52l one_52c right_53 two_54p two_54l two_54c fine_55 n_56)
theorem F3_L1_rule {k : Value → W} (I : Int → Option Addr → Nat → Nat → Addr → Option Addr → Nat → Nat → Bool → Option Addr → Nat → Nat → Option Addr → Nat → Nat → Bool → Option Addr → Nat → Nat → Bool → Int → W) (μ : Int → Option Addr → Nat → Nat → Addr → Option Addr → Nat → Nat → Bool → Option Addr → Nat → Nat → Option Addr → Nat → Nat → Bool → Option Addr → Nat → Nat → Bool → Int → World → Nat)
  (hr : ∀ (first_46 : Int) (items_47p : Option Addr) (items_47l : Nat) (items_47c : Nat) (x_48 : Addr) (without_49p : Option Addr) (without_49l : Nat) (without_49c : Nat) (is_50 : Bool) (want_51p : Option Addr) (want_51l : Nat) (want_51c : Nat) (one_52p : Option Addr) (one_52l : Nat) (one_52c : Nat) (right_53 : Bool) (two_54p : Option Addr) (two_54l : Nat) (two_54c : Nat) (fine_55 : Bool) (n_56 : Int) (w : World), I first_46 items_47p items_47l items_47c x_48 without_49p without_49l without_49c is_50 want_51p want_51l want_51c one_52p one_52l one_52c right_53 two_54p two_54l two_54c fine_55 n_56 w → F3_L1 k (fun first_46' items_47p' items_47l' items_47c' x_48' without_49p' without_49l' without_49c' is_50' want_51p' want_51l' want_51c' one_52p' one_52l' one_52c' right_53' two_54p' two_54l' two_54c' fine_55' n_56' w' => I first_46' items_47p' items_47l' items_47c' x_48' without_49p' without_49l' without_49c' is_50' want_51p' want_51l' want_51c' one_52p' one_52l' one_52c' right_53' two_54p' two_54l' two_54c' fine_55' n_56' w' ∧ μ first_46' items_47p' items_47l' items_47c' x_48' without_49p' without_49l' without_49c' is_50' want_51p' want_51l' want_51c' one_52p' one_52l' one_52c' right_53' two_54p' two_54l' two_54c' fine_55' n_56' w' < μ first_46 items_47p items_47l items_47c x_48 without_49p without_49l without_49c is_50 want_51p want_51l want_51c one_52p one_52l one_52c right_53 two_54p two_54l two_54c fine_55 n_56 w) first_46 items_47p items_47l items_47c x_48 without_49p without_49l without_49c is_50 want_51p want_51l want_51c one_52p one_52l one_52c right_53 two_54p two_54l two_54c fine_55 n_56 w)
  {w : World} {first_46 : Int} {items_47p : Option Addr} {items_47l : Nat} {items_47c : Nat} {x_48 : Addr} {without_49p : Option Addr} {without_49l : Nat} {without_49c : Nat} {is_50 : Bool} {want_51p : Option Addr} {want_51l : Nat} {want_51c : Nat} {one_52p : Option Addr} {one_52l : Nat} {one_52c : Nat} {right_53 : Bool} {two_54p : Option Addr} {two_54l : Nat} {two_54c : Nat} {fine_55 : Bool} {n_56 : Int} (h : I first_46 items_47p items_47l items_47c x_48 without_49p without_49l without_49c is_50 want_51p want_51l want_51c one_52p one_52l one_52c right_53 two_54p two_54l two_54c fine_55 n_56 w) : Loop [(.int .u8), .slice, .addr, .slice, .bool, .slice, .slice, .bool, .slice, .bool, (.int .i64)] (F3_L1 k) first_46 items_47p items_47l items_47c x_48 without_49p without_49l without_49c is_50 want_51p want_51l want_51c one_52p one_52l one_52c right_53 two_54p two_54l two_54c fine_55 n_56 w :=
  Loop_intro (ts := [(.int .u8), .slice, .addr, .slice, .bool, .slice, .slice, .bool, .slice, .bool, (.int .i64)]) (s := (first_46, (items_47p, items_47l, items_47c), x_48, (without_49p, without_49l, without_49c), is_50, (want_51p, want_51l, want_51c), (one_52p, one_52l, one_52c), right_53, (two_54p, two_54l, two_54c), fine_55, n_56, ())) (fun s w => I s.1 s.2.1.1 s.2.1.2.1 s.2.1.2.2 s.2.2.1 s.2.2.2.1.1 s.2.2.2.1.2.1 s.2.2.2.1.2.2 s.2.2.2.2.1 s.2.2.2.2.2.1.1 s.2.2.2.2.2.1.2.1 s.2.2.2.2.2.1.2.2 s.2.2.2.2.2.2.1.1 s.2.2.2.2.2.2.1.2.1 s.2.2.2.2.2.2.1.2.2 s.2.2.2.2.2.2.2.1 s.2.2.2.2.2.2.2.2.1.1 s.2.2.2.2.2.2.2.2.1.2.1 s.2.2.2.2.2.2.2.2.1.2.2 s.2.2.2.2.2.2.2.2.2.1 s.2.2.2.2.2.2.2.2.2.2.1 w) (fun s w => μ s.1 s.2.1.1 s.2.1.2.1 s.2.1.2.2 s.2.2.1 s.2.2.2.1.1 s.2.2.2.1.2.1 s.2.2.2.1.2.2 s.2.2.2.2.1 s.2.2.2.2.2.1.1 s.2.2.2.2.2.1.2.1 s.2.2.2.2.2.1.2.2 s.2.2.2.2.2.2.1.1 s.2.2.2.2.2.2.1.2.1 s.2.2.2.2.2.2.1.2.2 s.2.2.2.2.2.2.2.1 s.2.2.2.2.2.2.2.2.1.1 s.2.2.2.2.2.2.2.2.1.2.1 s.2.2.2.2.2.2.2.2.1.2.2 s.2.2.2.2.2.2.2.2.2.1 s.2.2.2.2.2.2.2.2.2.2.1 w) h (fun s w h => hr s.1 s.2.1.1 s.2.1.2.1 s.2.1.2.2 s.2.2.1 s.2.2.2.1.1 s.2.2.2.1.2.1 s.2.2.2.1.2.2 s.2.2.2.2.1 s.2.2.2.2.2.1.1 s.2.2.2.2.2.1.2.1 s.2.2.2.2.2.1.2.2 s.2.2.2.2.2.2.1.1 s.2.2.2.2.2.2.1.2.1 s.2.2.2.2.2.2.1.2.2 s.2.2.2.2.2.2.2.1 s.2.2.2.2.2.2.2.2.1.1 s.2.2.2.2.2.2.2.2.1.2.1 s.2.2.2.2.2.2.2.2.1.2.2 s.2.2.2.2.2.2.2.2.2.1 s.2.2.2.2.2.2.2.2.2.2.1 w h)
def F3_J2 (k : Value → W) (first_34 : Int) (items_35p : Option Addr) (items_35l : Nat) (items_35c : Nat) (x_36 : Addr) (without_37p : Option Addr) (without_37l : Nat) (without_37c : Nat) (is_38 : Bool) (want_39p : Option Addr) (want_39l : Nat) (want_39c : Nat) (a_40p : Option Addr) (a_40l : Nat) (a_40c : Nat) (b_41p : Option Addr) (b_41l : Nat) (b_41c : Nat) : W :=
 CallT Go.Proofs.Tryd.prog 12 [.int .i64 0, .bool true, .slice a_40p a_40l a_40c] (.tup [(.one .slice), (.one .bool)]) fun s42p s42l s42c b43 =>
 CallT Go.Proofs.Tryd.prog 12 [.int .i64 0, .bool true, .slice b_41p b_41l b_41c] (.tup [(.one .slice), (.one .bool)]) fun s44p s44l s44c b45 =>
 Loop [(.int .u8), .slice, .addr, .slice, .bool, .slice, .slice, .bool, .slice, .bool, (.int .i64)] (F3_L1 k) first_34 items_35p items_35l items_35c x_36 without_37p without_37l without_37c is_38 want_39p want_39l want_39c s42p s42l s42c b43 s44p s44l s44c b45 0
def F3_J1 (k : Value → W) (first_14 : Int) (items_15p : Option Addr) (items_15l : Nat) (items_15c : Nat) (x_16 : Addr) (without_17p : Option Addr) (without_17l : Nat) (without_17c : Nat) (is_18 : Bool) (want_19p : Option Addr) (want_19l : Nat) (want_19c : Nat) : W :=
 Drw <|
 LoadT (.int .i64) (x_16.add 0) fun x20 =>
 LoadT (.int .i64) (x_16.add 1) fun x21 =>
 LoadT (.int .i64) (x_16.add 0) fun x22 =>
 LoadT (.int .i64) (x_16.add 1) fun x23 =>
 Both (
  RawT Go.Proofs.Tryd.prog (Instr.buildSlice 25 1 [(0, .agg #[.int .i64 x20, .int .i64 x21])].toArray) (.s (.one .slice)) fun s24p s24l s24c =>
  Chk1 (x_16.add 0) (.int .i64 x22) <|
  Chk1 (x_16.add 1) (.int .i64 x23) <|
  Both (
   CallT Go.Proofs.Tryd.prog 11 [.slice s24p s24l s24c, .int .i64 1] (.s (.one .slice)) fun s25p s25l s25c =>
   Chk1 (x_16.add 0) (.int .i64 x22) <|
   Chk1 (x_16.add 1) (.int .i64 x23) <|
   Chk1 (x_16.add 0) (.int .i64 x20) <|
   Chk1 (x_16.add 1) (.int .i64 x21) <|
   Both (
    CallT Go.Proofs.Tryd.prog 11 [.slice items_15p items_15l items_15c, .int .i64 30] (.s (.one .slice)) fun s26p s26l s26c =>
    Chk1 (x_16.add 0) (.int .i64 x22) <|
    Chk1 (x_16.add 1) (.int .i64 x23) <|
    Chk1 (x_16.add 0) (.int .i64 x20) <|
    Chk1 (x_16.add 1) (.int .i64 x21) <|
    Both (
     NextT Go.Proofs.Tryd.prog (builtin .append #[33, 33] 33 [false, false].toArray [.slice s25p s25l s25c, .slice s26p s26l s26c].toArray) (.s (.one .slice)) fun s27p s27l s27c =>
     Chk1 (x_16.add 0) (.int .i64 x22) <|
     Chk1 (x_16.add 1) (.int .i64 x23) <|
     Chk1 (x_16.add 0) (.int .i64 x20) <|
     Chk1 (x_16.add 1) (.int .i64 x21) <|
     Both (
      CallT Go.Proofs.Tryd.prog 10 [.slice s27p s27l s27c, .int .i64 1000] (.s (.one .slice)) fun s28p s28l s28c =>
      Chk1 (x_16.add 0) (.int .i64 x22) <|
      Chk1 (x_16.add 1) (.int .i64 x23) <|
      Chk1 (x_16.add 0) (.int .i64 x20) <|
      Chk1 (x_16.add 1) (.int .i64 x21) <|
      Both (
       CallT Go.Proofs.Tryd.prog 11 [.slice items_15p items_15l items_15c, .int .i64 30] (.s (.one .slice)) fun s29p s29l s29c =>
       Chk1 (x_16.add 0) (.int .i64 x22) <|
       Chk1 (x_16.add 1) (.int .i64 x23) <|
       Chk1 (x_16.add 0) (.int .i64 x20) <|
       Chk1 (x_16.add 1) (.int .i64 x21) <|
       RawT Go.Proofs.Tryd.prog (Instr.buildSlice 25 1 [(0, .agg #[.int .i64 x22, .int .i64 x23])].toArray) (.s (.one .slice)) fun s30p s30l s30c =>
       Chk1 (x_16.add 0) (.int .i64 x20) <|
       Chk1 (x_16.add 1) (.int .i64 x21) <|
       CallT Go.Proofs.Tryd.prog 11 [.slice s30p s30l s30c, .int .i64 1] (.s (.one .slice)) fun s31p s31l s31c =>
       Chk1 (x_16.add 0) (.int .i64 x22) <|
       Chk1 (x_16.add 1) (.int .i64 x23) <|
       Chk1 (x_16.add 0) (.int .i64 x20) <|
       Chk1 (x_16.add 1) (.int .i64 x21) <|
       NextT Go.Proofs.Tryd.prog (builtin .append #[33, 33] 33 [false, false].toArray [.slice s29p s29l s29c, .slice s31p s31l s31c].toArray) (.s (.one .slice)) fun s32p s32l s32c =>
       Chk1 (x_16.add 0) (.int .i64 x22) <|
       Chk1 (x_16.add 1) (.int .i64 x23) <|
       Chk1 (x_16.add 0) (.int .i64 x20) <|
       Chk1 (x_16.add 1) (.int .i64 x21) <|
       CallT Go.Proofs.Tryd.prog 10 [.slice s32p s32l s32c, .int .i64 1000] (.s (.one .slice)) fun s33p s33l s33c =>
       Chk1 (x_16.add 0) (.int .i64 x22) <|
       Chk1 (x_16.add 1) (.int .i64 x23) <|
       Chk1 (x_16.add 0) (.int .i64 x20) <|
       Chk1 (x_16.add 1) (.int .i64 x21) <|
       F3_J2 k first_14 items_15p items_15l items_15c x_16 without_17p without_17l without_17c is_18 want_19p want_19l want_19c s28p s28l s28c s33p s33l s33c) (
       RawT Go.Proofs.Tryd.prog (Instr.buildSlice 25 1 [(0, .agg #[.int .i64 x22, .int .i64 x23])].toArray) (.s (.one .slice)) fun s91p s91l s91c =>
       Chk1 (x_16.add 0) (.int .i64 x20) <|
       Chk1 (x_16.add 1) (.int .i64 x21) <|
       CallT Go.Proofs.Tryd.prog 11 [.slice items_15p items_15l items_15c, .int .i64 30] (.s (.one .slice)) fun s92p s92l s92c =>
       Chk1 (x_16.add 0) (.int .i64 x22) <|
       Chk1 (x_16.add 1) (.int .i64 x23) <|
       Chk1 (x_16.add 0) (.int .i64 x20) <|
       Chk1 (x_16.add 1) (.int .i64 x21) <|
       CallT Go.Proofs.Tryd.prog 11 [.slice s91p s91l s91c, .int .i64 1] (.s (.one .slice)) fun s93p s93l s93c =>
       Chk1 (x_16.add 0) (.int .i64 x22) <|
       Chk1 (x_16.add 1) (.int .i64 x23) <|
       Chk1 (x_16.add 0) (.int .i64 x20) <|
       Chk1 (x_16.add 1) (.int .i64 x21) <|
       NextT Go.Proofs.Tryd.prog (builtin .append #[33, 33] 33 [false, false].toArray [.slice s92p s92l s92c, .slice s93p s93l s93c].toArray) (.s (.one .slice)) fun s94p s94l s94c =>
       Chk1 (x_16.add 0) (.int .i64 x22) <|
       Chk1 (x_16.add 1) (.int .i64 x23) <|
       Chk1 (x_16.add 0) (.int .i64 x20) <|
       Chk1 (x_16.add 1) (.int .i64 x21) <|
       CallT Go.Proofs.Tryd.prog 10 [.slice s94p s94l s94c, .int .i64 1000] (.s (.one .slice)) fun s95p s95l s95c =>
       Chk1 (x_16.add 0) (.int .i64 x22) <|
       Chk1 (x_16.add 1) (.int .i64 x23) <|
       Chk1 (x_16.add 0) (.int .i64 x20) <|
       Chk1 (x_16.add 1) (.int .i64 x21) <|
       F3_J2 k first_14 items_15p items_15l items_15c x_16 without_17p without_17l without_17c is_18 want_19p want_19l want_19c s28p s28l s28c s95p s95l s95c)) (
      RawT Go.Proofs.Tryd.prog (Instr.buildSlice 25 1 [(0, .agg #[.int .i64 x22, .int .i64 x23])].toArray) (.s (.one .slice)) fun s96p s96l s96c =>
      Chk1 (x_16.add 0) (.int .i64 x20) <|
      Chk1 (x_16.add 1) (.int .i64 x21) <|
      CallT Go.Proofs.Tryd.prog 10 [.slice s27p s27l s27c, .int .i64 1000] (.s (.one .slice)) fun s97p s97l s97c =>
      Chk1 (x_16.add 0) (.int .i64 x22) <|
      Chk1 (x_16.add 1) (.int .i64 x23) <|
      Chk1 (x_16.add 0) (.int .i64 x20) <|
      Chk1 (x_16.add 1) (.int .i64 x21) <|
      CallT Go.Proofs.Tryd.prog 11 [.slice items_15p items_15l items_15c, .int .i64 30] (.s (.one .slice)) fun s98p s98l s98c =>
      Chk1 (x_16.add 0) (.int .i64 x22) <|
      Chk1 (x_16.add 1) (.int .i64 x23) <|
      Chk1 (x_16.add 0) (.int .i64 x20) <|
      Chk1 (x_16.add 1) (.int .i64 x21) <|
      CallT Go.Proofs.Tryd.prog 11 [.slice s96p s96l s96c, .int .i64 1] (.s (.one .slice)) fun s99p s99l s99c =>
      Chk1 (x_16.add 0) (.int .i64 x22) <|
      Chk1 (x_16.add 1) (.int .i64 x23) <|
      Chk1 (x_16.add 0) (.int .i64 x20) <|
      Chk1 (x_16.add 1) (.int .i64 x21) <|
      NextT Go.Proofs.Tryd.prog (builtin .append #[33, 33] 33 [false, false].toArray [.slice s98p s98l s98c, .slice s99p s99l s99c].toArray) (.s (.one .slice)) fun s100p s100l s100c =>
      Chk1 (x_16.add 0) (.int .i64 x22) <|
      Chk1 (x_16.add 1) (.int .i64 x23) <|
      Chk1 (x_16.add 0) (.int .i64 x20) <|
      Chk1 (x_16.add 1) (.int .i64 x21) <|
      CallT Go.Proofs.Tryd.prog 10 [.slice s100p s100l s100c, .int .i64 1000] (.s (.one .slice)) fun s101p s101l s101c =>
      Chk1 (x_16.add 0) (.int .i64 x22) <|
      Chk1 (x_16.add 1) (.int .i64 x23) <|
      Chk1 (x_16.add 0) (.int .i64 x20) <|
      Chk1 (x_16.add 1) (.int .i64 x21) <|
      F3_J2 k first_14 items_15p items_15l items_15c x_16 without_17p without_17l without_17c is_18 want_19p want_19l want_19c s97p s97l s97c s101p s101l s101c)) (
     RawT Go.Proofs.Tryd.prog (Instr.buildSlice 25 1 [(0, .agg #[.int .i64 x22, .int .i64 x23])].toArray) (.s (.one .slice)) fun s102p s102l s102c =>
     Chk1 (x_16.add 0) (.int .i64 x20) <|
     Chk1 (x_16.add 1) (.int .i64 x21) <|
     NextT Go.Proofs.Tryd.prog (builtin .append #[33, 33] 33 [false, false].toArray [.slice s25p s25l s25c, .slice s26p s26l s26c].toArray) (.s (.one .slice)) fun s103p s103l s103c =>
     Chk1 (x_16.add 0) (.int .i64 x22) <|
     Chk1 (x_16.add 1) (.int .i64 x23) <|
     Chk1 (x_16.add 0) (.int .i64 x20) <|
     Chk1 (x_16.add 1) (.int .i64 x21) <|
     CallT Go.Proofs.Tryd.prog 10 [.slice s103p s103l s103c, .int .i64 1000] (.s (.one .slice)) fun s104p s104l s104c =>
     Chk1 (x_16.add 0) (.int .i64 x22) <|
     Chk1 (x_16.add 1) (.int .i64 x23) <|
     Chk1 (x_16.add 0) (.int .i64 x20) <|
     Chk1 (x_16.add 1) (.int .i64 x21) <|
     CallT Go.Proofs.Tryd.prog 11 [.slice items_15p items_15l items_15c, .int .i64 30] (.s (.one .slice)) fun s105p s105l s105c =>
     Chk1 (x_16.add 0) (.int .i64 x22) <|
     Chk1 (x_16.add 1) (.int .i64 x23) <|
     Chk1 (x_16.add 0) (.int .i64 x20) <|
     Chk1 (x_16.add 1) (.int .i64 x21) <|
     CallT Go.Proofs.Tryd.prog 11 [.slice s102p s102l s102c, .int .i64 1] (.s (.one .slice)) fun s106p s106l s106c =>
     Chk1 (x_16.add 0) (.int .i64 x22) <|
     Chk1 (x_16.add 1) (.int .i64 x23) <|
     Chk1 (x_16.add 0) (.int .i64 x20) <|
     Chk1 (x_16.add 1) (.int .i64 x21) <|
     NextT Go.Proofs.Tryd.prog (builtin .append #[33, 33] 33 [false, false].toArray [.slice s105p s105l s105c, .slice s106p s106l s106c].toArray) (.s (.one .slice)) fun s107p s107l s107c =>
     Chk1 (x_16.add 0) (.int .i64 x22) <|
     Chk1 (x_16.add 1) (.int .i64 x23) <|
     Chk1 (x_16.add 0) (.int .i64 x20) <|
     Chk1 (x_16.add 1) (.int .i64 x21) <|
     CallT Go.Proofs.Tryd.prog 10 [.slice s107p s107l s107c, .int .i64 1000] (.s (.one .slice)) fun s108p s108l s108c =>
     Chk1 (x_16.add 0) (.int .i64 x22) <|
     Chk1 (x_16.add 1) (.int .i64 x23) <|
     Chk1 (x_16.add 0) (.int .i64 x20) <|
     Chk1 (x_16.add 1) (.int .i64 x21) <|
     F3_J2 k first_14 items_15p items_15l items_15c x_16 without_17p without_17l without_17c is_18 want_19p want_19l want_19c s104p s104l s104c s108p s108l s108c)) (
    RawT Go.Proofs.Tryd.prog (Instr.buildSlice 25 1 [(0, .agg #[.int .i64 x22, .int .i64 x23])].toArray) (.s (.one .slice)) fun s109p s109l s109c =>
    Chk1 (x_16.add 0) (.int .i64 x20) <|
    Chk1 (x_16.add 1) (.int .i64 x21) <|
    CallT Go.Proofs.Tryd.prog 11 [.slice items_15p items_15l items_15c, .int .i64 30] (.s (.one .slice)) fun s110p s110l s110c =>
    Chk1 (x_16.add 0) (.int .i64 x22) <|
    Chk1 (x_16.add 1) (.int .i64 x23) <|
    Chk1 (x_16.add 0) (.int .i64 x20) <|
    Chk1 (x_16.add 1) (.int .i64 x21) <|
    NextT Go.Proofs.Tryd.prog (builtin .append #[33, 33] 33 [false, false].toArray [.slice s25p s25l s25c, .slice s110p s110l s110c].toArray) (.s (.one .slice)) fun s111p s111l s111c =>
    Chk1 (x_16.add 0) (.int .i64 x22) <|
    Chk1 (x_16.add 1) (.int .i64 x23) <|
    Chk1 (x_16.add 0) (.int .i64 x20) <|
    Chk1 (x_16.add 1) (.int .i64 x21) <|
    CallT Go.Proofs.Tryd.prog 10 [.slice s111p s111l s111c, .int .i64 1000] (.s (.one .slice)) fun s112p s112l s112c =>
    Chk1 (x_16.add 0) (.int .i64 x22) <|
    Chk1 (x_16.add 1) (.int .i64 x23) <|
    Chk1 (x_16.add 0) (.int .i64 x20) <|
    Chk1 (x_16.add 1) (.int .i64 x21) <|
    CallT Go.Proofs.Tryd.prog 11 [.slice items_15p items_15l items_15c, .int .i64 30] (.s (.one .slice)) fun s113p s113l s113c =>
    Chk1 (x_16.add 0) (.int .i64 x22) <|
    Chk1 (x_16.add 1) (.int .i64 x23) <|
    Chk1 (x_16.add 0) (.int .i64 x20) <|
    Chk1 (x_16.add 1) (.int .i64 x21) <|
    CallT Go.Proofs.Tryd.prog 11 [.slice s109p s109l s109c, .int .i64 1] (.s (.one .slice)) fun s114p s114l s114c =>
    Chk1 (x_16.add 0) (.int .i64 x22) <|
    Chk1 (x_16.add 1) (.int .i64 x23) <|
    Chk1 (x_16.add 0) (.int .i64 x20) <|
    Chk1 (x_16.add 1) (.int .i64 x21) <|
    NextT Go.Proofs.Tryd.prog (builtin .append #[33, 33] 33 [false, false].toArray [.slice s113p s113l s113c, .slice s114p s114l s114c].toArray) (.s (.one .slice)) fun s115p s115l s115c =>
    Chk1 (x_16.add 0) (.int .i64 x22) <|
    Chk1 (x_16.add 1) (.int .i64 x23) <|
    Chk1 (x_16.add 0) (.int .i64 x20) <|
    Chk1 (x_16.add 1) (.int .i64 x21) <|
    CallT Go.Proofs.Tryd.prog 10 [.slice s115p s115l s115c, .int .i64 1000] (.s (.one .slice)) fun s116p s116l s116c =>
    Chk1 (x_16.add 0) (.int .i64 x22) <|
    Chk1 (x_16.add 1) (.int .i64 x23) <|
    Chk1 (x_16.add 0) (.int .i64 x20) <|
    Chk1 (x_16.add 1) (.int .i64 x21) <|
    F3_J2 k first_14 items_15p items_15l items_15c x_16 without_17p without_17l without_17c is_18 want_19p want_19l want_19c s112p s112l s112c s116p s116l s116c)) (
   RawT Go.Proofs.Tryd.prog (Instr.buildSlice 25 1 [(0, .agg #[.int .i64 x22, .int .i64 x23])].toArray) (.s (.one .slice)) fun s117p s117l s117c =>
   Chk1 (x_16.add 0) (.int .i64 x20) <|
   Chk1 (x_16.add 1) (.int .i64 x21) <|
   CallT Go.Proofs.Tryd.prog 11 [.slice s24p s24l s24c, .int .i64 1] (.s (.one .slice)) fun s118p s118l s118c =>
   Chk1 (x_16.add 0) (.int .i64 x22) <|
   Chk1 (x_16.add 1) (.int .i64 x23) <|
   Chk1 (x_16.add 0) (.int .i64 x20) <|
   Chk1 (x_16.add 1) (.int .i64 x21) <|
   CallT Go.Proofs.Tryd.prog 11 [.slice items_15p items_15l items_15c, .int .i64 30] (.s (.one .slice)) fun s119p s119l s119c =>
   Chk1 (x_16.add 0) (.int .i64 x22) <|
   Chk1 (x_16.add 1) (.int .i64 x23) <|
   Chk1 (x_16.add 0) (.int .i64 x20) <|
   Chk1 (x_16.add 1) (.int .i64 x21) <|
   NextT Go.Proofs.Tryd.prog (builtin .append #[33, 33] 33 [false, false].toArray [.slice s118p s118l s118c, .slice s119p s119l s119c].toArray) (.s (.one .slice)) fun s120p s120l s120c =>
   Chk1 (x_16.add 0) (.int .i64 x22) <|
   Chk1 (x_16.add 1) (.int .i64 x23) <|
   Chk1 (x_16.add 0) (.int .i64 x20) <|
   Chk1 (x_16.add 1) (.int .i64 x21) <|
   CallT Go.Proofs.Tryd.prog 10 [.slice s120p s120l s120c, .int .i64 1000] (.s (.one .slice)) fun s121p s121l s121c =>
   Chk1 (x_16.add 0) (.int .i64 x22) <|
   Chk1 (x_16.add 1) (.int .i64 x23) <|
   Chk1 (x_16.add 0) (.int .i64 x20) <|
   Chk1 (x_16.add 1) (.int .i64 x21) <|
   CallT Go.Proofs.Tryd.prog 11 [.slice items_15p items_15l items_15c, .int .i64 30] (.s (.one .slice)) fun s122p s122l s122c =>
   Chk1 (x_16.add 0) (.int .i64 x22) <|
   Chk1 (x_16.add 1) (.int .i64 x23) <|
   Chk1 (x_16.add 0) (.int .i64 x20) <|
   Chk1 (x_16.add 1) (.int .i64 x21) <|
   CallT Go.Proofs.Tryd.prog 11 [.slice s117p s117l s117c, .int .i64 1] (.s (.one .slice)) fun s123p s123l s123c =>
   Chk1 (x_16.add 0) (.int .i64 x22) <|
   Chk1 (x_16.add 1) (.int .i64 x23) <|
   Chk1 (x_16.add 0) (.int .i64 x20) <|
   Chk1 (x_16.add 1) (.int .i64 x21) <|
   NextT Go.Proofs.Tryd.prog (builtin .append #[33, 33] 33 [false, false].toArray [.slice s122p s122l s122c, .slice s123p s123l s123c].toArray) (.s (.one .slice)) fun s124p s124l s124c =>
   Chk1 (x_16.add 0) (.int .i64 x22) <|
   Chk1 (x_16.add 1) (.int .i64 x23) <|
   Chk1 (x_16.add 0) (.int .i64 x20) <|
   Chk1 (x_16.add 1) (.int .i64 x21) <|
   CallT Go.Proofs.Tryd.prog 10 [.slice s124p s124l s124c, .int .i64 1000] (.s (.one .slice)) fun s125p s125l s125c =>
   Chk1 (x_16.add 0) (.int .i64 x22) <|
   Chk1 (x_16.add 1) (.int .i64 x23) <|
   Chk1 (x_16.add 0) (.int .i64 x20) <|
   Chk1 (x_16.add 1) (.int .i64 x21) <|
   F3_J2 k first_14 items_15p items_15l items_15c x_16 without_17p without_17l without_17c is_18 want_19p want_19l want_19c s121p s121l s121c s125p s125l s125c)) (
  RawT Go.Proofs.Tryd.prog (Instr.buildSlice 25 1 [(0, .agg #[.int .i64 x22, .int .i64 x23])].toArray) (.s (.one .slice)) fun s126p s126l s126c =>
  Chk1 (x_16.add 0) (.int .i64 x20) <|
  Chk1 (x_16.add 1) (.int .i64 x21) <|
  RawT Go.Proofs.Tryd.prog (Instr.buildSlice 25 1 [(0, .agg #[.int .i64 x20, .int .i64 x21])].toArray) (.s (.one .slice)) fun s127p s127l s127c =>
  Chk1 (x_16.add 0) (.int .i64 x22) <|
  Chk1 (x_16.add 1) (.int .i64 x23) <|
  CallT Go.Proofs.Tryd.prog 11 [.slice s127p s127l s127c, .int .i64 1] (.s (.one .slice)) fun s128p s128l s128c =>
  Chk1 (x_16.add 0) (.int .i64 x22) <|
  Chk1 (x_16.add 1) (.int .i64 x23) <|
  Chk1 (x_16.add 0) (.int .i64 x20) <|
  Chk1 (x_16.add 1) (.int .i64 x21) <|
  CallT Go.Proofs.Tryd.prog 11 [.slice items_15p items_15l items_15c, .int .i64 30] (.s (.one .slice)) fun s129p s129l s129c =>
  Chk1 (x_16.add 0) (.int .i64 x22) <|
  Chk1 (x_16.add 1) (.int .i64 x23) <|
  Chk1 (x_16.add 0) (.int .i64 x20) <|
  Chk1 (x_16.add 1) (.int .i64 x21) <|
  NextT Go.Proofs.Tryd.prog (builtin .append #[33, 33] 33 [false, false].toArray [.slice s128p s128l s128c, .slice s129p s129l s129c].toArray) (.s (.one .slice)) fun s130p s130l s130c =>
  Chk1 (x_16.add 0) (.int .i64 x22) <|
  Chk1 (x_16.add 1) (.int .i64 x23) <|
  Chk1 (x_16.add 0) (.int .i64 x20) <|
  Chk1 (x_16.add 1) (.int .i64 x21) <|
  CallT Go.Proofs.Tryd.prog 10 [.slice s130p s130l s130c, .int .i64 1000] (.s (.one .slice)) fun s131p s131l s131c =>
  Chk1 (x_16.add 0) (.int .i64 x22) <|
  Chk1 (x_16.add 1) (.int .i64 x23) <|
  Chk1 (x_16.add 0) (.int .i64 x20) <|
  Chk1 (x_16.add 1) (.int .i64 x21) <|
  CallT Go.Proofs.Tryd.prog 11 [.slice items_15p items_15l items_15c, .int .i64 30] (.s (.one .slice)) fun s132p s132l s132c =>
  Chk1 (x_16.add 0) (.int .i64 x22) <|
  Chk1 (x_16.add 1) (.int .i64 x23) <|
  Chk1 (x_16.add 0) (.int .i64 x20) <|
  Chk1 (x_16.add 1) (.int .i64 x21) <|
  CallT Go.Proofs.Tryd.prog 11 [.slice s126p s126l s126c, .int .i64 1] (.s (.one .slice)) fun s133p s133l s133c =>
  Chk1 (x_16.add 0) (.int .i64 x22) <|
  Chk1 (x_16.add 1) (.int .i64 x23) <|
  Chk1 (x_16.add 0) (.int .i64 x20) <|
  Chk1 (x_16.add 1) (.int .i64 x21) <|
  NextT Go.Proofs.Tryd.prog (builtin .append #[33, 33] 33 [false, false].toArray [.slice s132p s132l s132c, .slice s133p s133l s133c].toArray) (.s (.one .slice)) fun s134p s134l s134c =>
  Chk1 (x_16.add 0) (.int .i64 x22) <|
  Chk1 (x_16.add 1) (.int .i64 x23) <|
  Chk1 (x_16.add 0) (.int .i64 x20) <|
  Chk1 (x_16.add 1) (.int .i64 x21) <|
  CallT Go.Proofs.Tryd.prog 10 [.slice s134p s134l s134c, .int .i64 1000] (.s (.one .slice)) fun s135p s135l s135c =>
  Chk1 (x_16.add 0) (.int .i64 x22) <|
  Chk1 (x_16.add 1) (.int .i64 x23) <|
  Chk1 (x_16.add 0) (.int .i64 x20) <|
  Chk1 (x_16.add 1) (.int .i64 x21) <|
  F3_J2 k first_14 items_15p items_15l items_15c x_16 without_17p without_17l without_17c is_18 want_19p want_19l want_19c s131p s131l s131c s135p s135l s135c)
def F3 (k : Value → W) (l_1p : Option Addr) (l_1l : Nat) (l_1c : Nat) (more_2 : Int) (first_3 : Int) : W :=
 BIf (decide (((l_1l : Nat) : Int) > 2147483647)) (
  k (.bool true)) (
  CallT Go.Proofs.Tryd.prog 5 [.slice l_1p l_1l l_1c] (.s (.one .bool)) fun b4 =>
  BIf (!b4) (
   k (.bool true)) (
   CallT Go.Proofs.Tryd.prog 6 [.slice l_1p l_1l l_1c, .int .i64 0] (.s (.one .slice)) fun s5p s5l s5c =>
   New [.int .i64 0, .int .i64 0] 28 fun n6 =>
   Store1 ⟨n6, 0, none⟩ (.int .i64 (IntKind.wrap .i64 more_2)) <|
   Store1 ⟨n6, 1, none⟩ (.int .i64 99) <|
   CallT Go.Proofs.Tryd.prog 7 [.slice s5p s5l s5c] (.tup [(.one .slice), (.one .bool)]) fun s7p s7l s7c b8 =>
   Drw <|
   LoadT (.int .i64) ⟨n6, 0, none⟩ fun x9 =>
   Both (
    CallT Go.Proofs.Tryd.prog 9 [.slice s7p s7l s7c] (.s (.one .slice)) fun s10p s10l s10c =>
    Chk1 ⟨n6, 0, none⟩ (.int .i64 x9) <|
    RawT Go.Proofs.Tryd.prog (Instr.buildSlice 29 1 [(0, .int .i64 x9)].toArray) (.s (.one .slice)) fun s11p s11l s11c =>
    NextT Go.Proofs.Tryd.prog (builtin .append #[29, 29] 29 [false, false].toArray [.slice s10p s10l s10c, .slice s11p s11l s11c].toArray) (.s (.one .slice)) fun s12p s12l s12c =>
    Chk1 ⟨n6, 0, none⟩ (.int .i64 x9) <|
    CallT Go.Proofs.Tryd.prog 8 [.slice s12p s12l s12c] (.s (.one .slice)) fun s13p s13l s13c =>
    Chk1 ⟨n6, 0, none⟩ (.int .i64 x9) <|
    F3_J1 k first_3 s5p s5l s5c ⟨n6, 0, none⟩ s7p s7l s7c b8 s13p s13l s13c) (
    RawT Go.Proofs.Tryd.prog (Instr.buildSlice 29 1 [(0, .int .i64 x9)].toArray) (.s (.one .slice)) fun s136p s136l s136c =>
    CallT Go.Proofs.Tryd.prog 9 [.slice s7p s7l s7c] (.s (.one .slice)) fun s137p s137l s137c =>
    Chk1 ⟨n6, 0, none⟩ (.int .i64 x9) <|
    NextT Go.Proofs.Tryd.prog (builtin .append #[29, 29] 29 [false, false].toArray [.slice s137p s137l s137c, .slice s136p s136l s136c].toArray) (.s (.one .slice)) fun s138p s138l s138c =>
    Chk1 ⟨n6, 0, none⟩ (.int .i64 x9) <|
    CallT Go.Proofs.Tryd.prog 8 [.slice s138p s138l s138c] (.s (.one .slice)) fun s139p s139l s139c =>
    Chk1 ⟨n6, 0, none⟩ (.int .i64 x9) <|
    F3_J1 k first_3 s5p s5l s5c ⟨n6, 0, none⟩ s7p s7l s7c b8 s139p s139l s139c)))
theorem F3_eq (k : Value → W) (l_1p : Option Addr) (l_1l : Nat) (l_1c : Nat) (more_2 : Int) (first_3 : Int) : compF Go.Proofs.Tryd.prog Go.Proofs.Tryd.f3 [(13, [(2, (.int .u8)), (7, .slice), (8, .addr), (9, .slice), (10, .bool), (11, .slice), (14, .slice), (15, .bool), (16, .slice), (17, .bool), (18, (.int .i64))])] (Go.Proofs.Tryd.f3.body.getD .skip) [.slice l_1p l_1l l_1c, .int .i16 more_2, .int .u8 first_3] k = F3 k l_1p l_1l l_1c more_2 first_3 := by kernel_rfl
theorem F3_calls {l_1p : Option Addr} {l_1l : Nat} {l_1c : Nat} {more_2 : Int} {first_3 : Int} {w : World} {R : Ending → World → Prop} (h : F3 (fun v w => R (.returned v) w) l_1p l_1l l_1c more_2 first_3 w) : Calls Go.Proofs.Tryd.prog 3 #[.slice l_1p l_1l l_1c, .int .i16 more_2, .int .u8 first_3] w R :=
  calls_of_compF noNum follows [(13, [(2, (.int .u8)), (7, .slice), (8, .addr), (9, .slice), (10, .bool), (11, .slice), (14, .slice), (15, .bool), (16, .slice), (17, .bool), (18, (.int .i64))])] (f := 3) (fn := Go.Proofs.Tryd.f3) (body := Go.Proofs.Tryd.f3.body.getD .skip) (args := [.slice l_1p l_1l l_1c, .int .i16 more_2, .int .u8 first_3]) rfl rfl (Nat.le_of_ble_eq_true rfl) ((congrFun (F3_eq _ l_1p l_1l l_1c more_2 first_3) w).mpr h)
theorem F3_call {l_1p : Option Addr} {l_1l : Nat} {l_1c : Nat} {more_2 : Int} {first_3 : Int} {w : World} {g : Fn W (RTy.leaves (.s (.one .bool)))} (h : F3 (fun v => Back (.s (.one .bool)) g (.returned v)) l_1p l_1l l_1c more_2 first_3 w) : CallT Go.Proofs.Tryd.prog 3 [.slice l_1p l_1l l_1c, .int .i16 more_2, .int .u8 first_3] (.s (.one .bool)) g w := F3_calls h

/-! ## laws.FnPQTwice -/
def F4 (k : Value → W) (l_1p : Option Addr) (l_1l : Nat) (l_1c : Nat) : W :=
 BIf (decide (((l_1l : Nat) : Int) > 2147483647)) (
  k (.bool true)) (
  CallT Go.Proofs.Tryd.prog 5 [.slice l_1p l_1l l_1c] (.s (.one .bool)) fun b2 =>
  BIf (!b2) (
   k (.bool true)) (
   BIf (decide (((l_1l : Nat) : Int) > 15)) (
    k (.bool true)) (
    CallT Go.Proofs.Tryd.prog 6 [.slice l_1p l_1l l_1c, .int .i64 0] (.s (.one .slice)) fun s3p s3l s3c =>
    CallT Go.Proofs.Tryd.prog 7 [.slice s3p s3l s3c] (.tup [(.one .slice), (.one .bool)]) fun s4p s4l s4c b5 =>
    CallT Go.Proofs.Tryd.prog 11 [.slice s3p s3l s3c, .int .i64 30] (.s (.one .slice)) fun s6p s6l s6c =>
    CallT Go.Proofs.Tryd.prog 11 [.slice s3p s3l s3c, .int .i64 3] (.s (.one .slice)) fun s7p s7l s7c =>
    NextT Go.Proofs.Tryd.prog (builtin .append #[33, 33] 33 [false, false].toArray [.slice s6p s6l s6c, .slice s7p s7l s7c].toArray) (.s (.one .slice)) fun s8p s8l s8c =>
    CallT Go.Proofs.Tryd.prog 10 [.slice s8p s8l s8c, .int .i64 1000] (.s (.one .slice)) fun s9p s9l s9c =>
    CallT Go.Proofs.Tryd.prog 12 [.int .i64 0, .bool false, .slice s9p s9l s9c] (.tup [(.one .slice), (.one .bool)]) fun s10p s10l s10c b11 =>
    CallT Go.Proofs.Tryd.prog 10 [.slice s8p s8l s8c, .int .i64 1000] (.s (.one .slice)) fun s12p s12l s12c =>
    CallT Go.Proofs.Tryd.prog 12 [.int .i64 0, .bool true, .slice s12p s12l s12c] (.tup [(.one .slice), (.one .bool)]) fun s13p s13l s13c b14 =>
    BIf b5 (
     BIf b11 (
      BIf b14 (
       CallT Go.Proofs.Tryd.prog 13 [.slice s4p s4l s4c, .slice s10p s10l s10c] (.s (.one .bool)) fun b15 =>
       BIf b15 (
        NextT Go.Proofs.Tryd.prog (builtin .append #[29, 29] 29 [false, false].toArray [.slice s4p s4l s4c, .slice s10p s10l s10c].toArray) (.s (.one .slice)) fun s16p s16l s16c =>
        CallT Go.Proofs.Tryd.prog 8 [.slice s16p s16l s16c] (.s (.one .slice)) fun s17p s17l s17c =>
        CallT Go.Proofs.Tryd.prog 13 [.slice s17p s17l s17c, .slice s13p s13l s13c] (.s (.one .bool)) fun b18 =>
        k (.bool b18)) (
        k (.bool false))) (
       k (.bool false))) (
      k (.bool false))) (
     k (.bool false)))))
theorem F4_eq (k : Value → W) (l_1p : Option Addr) (l_1l : Nat) (l_1c : Nat) : compF Go.Proofs.Tryd.prog Go.Proofs.Tryd.f4 [] (Go.Proofs.Tryd.f4.body.getD .skip) [.slice l_1p l_1l l_1c] k = F4 k l_1p l_1l l_1c := by kernel_rfl
theorem F4_calls {l_1p : Option Addr} {l_1l : Nat} {l_1c : Nat} {w : World} {R : Ending → World → Prop} (h : F4 (fun v w => R (.returned v) w) l_1p l_1l l_1c w) : Calls Go.Proofs.Tryd.prog 4 #[.slice l_1p l_1l l_1c] w R :=
  calls_of_compF noNum follows [] (f := 4) (fn := Go.Proofs.Tryd.f4) (body := Go.Proofs.Tryd.f4.body.getD .skip) (args := [.slice l_1p l_1l l_1c]) rfl rfl (Nat.le_of_ble_eq_true rfl) ((congrFun (F4_eq _ l_1p l_1l l_1c) w).mpr h)
theorem F4_call {l_1p : Option Addr} {l_1l : Nat} {l_1c : Nat} {w : World} {g : Fn W (RTy.leaves (.s (.one .bool)))} (h : F4 (fun v => Back (.s (.one .bool)) g (.returned v)) l_1p l_1l l_1c w) : CallT Go.Proofs.Tryd.prog 4 [.slice l_1p l_1l l_1c] (.s (.one .bool)) g w := F4_calls h

end Go.Proofs.YtbbidbjefdaagaaDoor.E
