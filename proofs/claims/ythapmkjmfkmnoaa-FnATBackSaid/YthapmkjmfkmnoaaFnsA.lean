/-
  Printed by this session's own program eng.py out of Lean's print of the loaded functions: what each function's body asks, in the engine's words; each is checked against the program by the kernel.
-/
import Derived.Test.YthapmkjmfkmnoaaEng
import Derived.Test.YthapmkjmfkmnoaaProg
namespace Go.Proofs.Ythapmkjmfkmnoaa.E
open Go
set_option linter.unusedVariables false
set_option maxRecDepth 100000
theorem noNum : NoNum Go.Proofs.Try.prog := noNum_of (by kernel_rfl)
theorem follows : (Go.Proofs.Try.prog).follows .mixedOrders = true := by kernel_rfl

/-! ## augmentedtree.newDummy -/
def F17 (k : Value → W) : W :=
 New [.nilIface, .int .i64 0, .int .i64 0, .pointer none, .pointer none, .bool false, .int .u64 0] 71 fun n1 =>
 Store1 ⟨n1, 0, none⟩ .nilIface <|
 Store1 ⟨n1, 1, none⟩ (.int .i64 0) <|
 Store1 ⟨n1, 2, none⟩ (.int .i64 0) <|
 Store1 ⟨n1, 3, none⟩ (.pointer none) <|
 Store1 ⟨n1, 4, none⟩ (.pointer none) <|
 Store1 ⟨n1, 5, none⟩ (.bool false) <|
 Store1 ⟨n1, 6, none⟩ (.int .u64 0) <|
 LoadT .any ⟨n1, 0, none⟩ fun v2 =>
 LoadT (.int .i64) ⟨n1, 1, none⟩ fun x3 =>
 LoadT (.int .i64) ⟨n1, 2, none⟩ fun x4 =>
 LoadT .ptr ⟨n1, 3, none⟩ fun p5 =>
 LoadT .ptr ⟨n1, 4, none⟩ fun p6 =>
 LoadT .bool ⟨n1, 5, none⟩ fun b7 =>
 LoadT (.int .u64) ⟨n1, 6, none⟩ fun x8 =>
 k (.agg #[v2, .int .i64 x3, .int .i64 x4, .pointer p5, .pointer p6, .bool b7, .int .u64 x8])
theorem F17_eq (k : Value → W) : compF Go.Proofs.Try.prog Go.Proofs.Try.f17 [] (Go.Proofs.Try.f17.body.getD .skip) [] k = F17 k  := by kernel_rfl
theorem F17_calls {w : World} {R : Ending → World → Prop} (h : F17 (fun v w => R (.returned v) w)  w) : Calls Go.Proofs.Try.prog 17 #[] w R :=
  calls_of_compF noNum follows [] (f := 17) (fn := Go.Proofs.Try.f17) (body := Go.Proofs.Try.f17.body.getD .skip) (args := []) rfl rfl (Nat.le_of_ble_eq_true rfl) ((congrFun (F17_eq _ ) w).mpr h)
theorem F17_call {w : World} {g : Fn W (RTy.leaves (.s (.agg [.any, (.int .i64), (.int .i64), .ptr, .ptr, .bool, (.int .u64)])))} (h : F17 (fun v => Back (.s (.agg [.any, (.int .i64), (.int .i64), .ptr, .ptr, .bool, (.int .u64)])) g (.returned v))  w) : CallT Go.Proofs.Try.prog 17 [] (.s (.agg [.any, (.int .i64), (.int .i64), .ptr, .ptr, .bool, (.int .u64)])) g w := F17_calls h

/-! ## augmentedtree.newTree -/
def F14 (k : Value → W) (maxDimension_1 : Int) : W :=
 CallT Go.Proofs.Try.prog 17 [] (.s (.agg [.any, (.int .i64), (.int .i64), .ptr, .ptr, .bool, (.int .u64)])) fun v2 x3 x4 p5 p6 b7 x8 =>
 New [.pointer none, .int .u64 maxDimension_1, .int .u64 0, v2, .int .i64 x3, .int .i64 x4, .pointer p5, .pointer p6, .bool b7, .int .u64 x8] 74 fun n9 =>
 k (.pointer (some ⟨n9, 0, none⟩))
theorem F14_eq (k : Value → W) (maxDimension_1 : Int) : compF Go.Proofs.Try.prog Go.Proofs.Try.f14 [] (Go.Proofs.Try.f14.body.getD .skip) [.int .u64 maxDimension_1] k = F14 k maxDimension_1 := by kernel_rfl
theorem F14_calls {maxDimension_1 : Int} {w : World} {R : Ending → World → Prop} (h : F14 (fun v w => R (.returned v) w) maxDimension_1 w) : Calls Go.Proofs.Try.prog 14 #[.int .u64 maxDimension_1] w R :=
  calls_of_compF noNum follows [] (f := 14) (fn := Go.Proofs.Try.f14) (body := Go.Proofs.Try.f14.body.getD .skip) (args := [.int .u64 maxDimension_1]) rfl rfl (Nat.le_of_ble_eq_true rfl) ((congrFun (F14_eq _ maxDimension_1) w).mpr h)
theorem F14_call {maxDimension_1 : Int} {w : World} {g : Fn W (RTy.leaves (.s (.one .ptr)))} (h : F14 (fun v => Back (.s (.one .ptr)) g (.returned v)) maxDimension_1 w) : CallT Go.Proofs.Try.prog 14 [.int .u64 maxDimension_1] (.s (.one .ptr)) g w := F14_calls h

/-! ## augmentedtree.New -/
def F12 (k : Value → W) (dimensions_1 : Int) : W :=
 CallT Go.Proofs.Try.prog 14 [.int .u64 dimensions_1] (.s (.one .ptr)) fun p2 =>
 k (.iface 54 (.pointer p2))
theorem F12_eq (k : Value → W) (dimensions_1 : Int) : compF Go.Proofs.Try.prog Go.Proofs.Try.f12 [] (Go.Proofs.Try.f12.body.getD .skip) [.int .u64 dimensions_1] k = F12 k dimensions_1 := by kernel_rfl
theorem F12_calls {dimensions_1 : Int} {w : World} {R : Ending → World → Prop} (h : F12 (fun v w => R (.returned v) w) dimensions_1 w) : Calls Go.Proofs.Try.prog 12 #[.int .u64 dimensions_1] w R :=
  calls_of_compF noNum follows [] (f := 12) (fn := Go.Proofs.Try.f12) (body := Go.Proofs.Try.f12.body.getD .skip) (args := [.int .u64 dimensions_1]) rfl rfl (Nat.le_of_ble_eq_true rfl) ((congrFun (F12_eq _ dimensions_1) w).mpr h)
theorem F12_call {dimensions_1 : Int} {w : World} {g : Fn W (RTy.leaves (.s (.one .any)))} (h : F12 (fun v => Back (.s (.one .any)) g (.returned v)) dimensions_1 w) : CallT Go.Proofs.Try.prog 12 [.int .u64 dimensions_1] (.s (.one .any)) g w := F12_calls h

/-! ## impl.place -/
def F61 (k : Value → W) (l_1p : Option Addr) (l_1l : Nat) (l_1c : Nat) (d_2 : Int) : W :=
 BIf (decide (d_2 < 1)) (
  k (.int .i64 0)) (
  BIf (decide (d_2 > (IntKind.wrap .u64 ((l_1l : Nat) : Int)))) (
   k (.int .i64 0)) (
   NN l_1p fun a3 =>
   Req (0 ≤ subI .u64 d_2 1 ∧ subI .u64 d_2 1 < ((l_1l : Nat) : Int)) <|
   LoadT (.int .i64) (a3.add ((subI .u64 d_2 1).toNat)) fun x4 =>
   k (.int .i64 x4)))
theorem F61_eq (k : Value → W) (l_1p : Option Addr) (l_1l : Nat) (l_1c : Nat) (d_2 : Int) : compF Go.Proofs.Try.prog Go.Proofs.Try.f61 [] (Go.Proofs.Try.f61.body.getD .skip) [.slice l_1p l_1l l_1c, .int .u64 d_2] k = F61 k l_1p l_1l l_1c d_2 := by kernel_rfl
theorem F61_calls {l_1p : Option Addr} {l_1l : Nat} {l_1c : Nat} {d_2 : Int} {w : World} {R : Ending → World → Prop} (h : F61 (fun v w => R (.returned v) w) l_1p l_1l l_1c d_2 w) : Calls Go.Proofs.Try.prog 61 #[.slice l_1p l_1l l_1c, .int .u64 d_2] w R :=
  calls_of_compF noNum follows [] (f := 61) (fn := Go.Proofs.Try.f61) (body := Go.Proofs.Try.f61.body.getD .skip) (args := [.slice l_1p l_1l l_1c, .int .u64 d_2]) rfl rfl (Nat.le_of_ble_eq_true rfl) ((congrFun (F61_eq _ l_1p l_1l l_1c d_2) w).mpr h)
theorem F61_call {l_1p : Option Addr} {l_1l : Nat} {l_1c : Nat} {d_2 : Int} {w : World} {g : Fn W (RTy.leaves (.s (.one (.int .i64))))} (h : F61 (fun v => Back (.s (.one (.int .i64))) g (.returned v)) l_1p l_1l l_1c d_2 w) : CallT Go.Proofs.Try.prog 61 [.slice l_1p l_1l l_1c, .int .u64 d_2] (.s (.one (.int .i64))) g w := F61_calls h

/-! ## impl.span).HighAtDimension -/
def F57 (k : Value → W) (s1p : Option Addr) (s1l : Nat) (s1c : Nat) (s2p : Option Addr) (s2l : Nat) (s2c : Nat) (x3 : Int) (d_4 : Int) : W :=
 New [.slice s1p s1l s1c, .slice s2p s2l s2c, .int .u64 x3] 59 fun n5 =>
 LoadT .slice ⟨n5, 1, none⟩ fun s6p s6l s6c =>
 CallT Go.Proofs.Try.prog 61 [.slice s6p s6l s6c, .int .u64 d_4] (.s (.one (.int .i64))) fun x7 =>
 k (.int .i64 x7)
theorem F57_eq (k : Value → W) (s1p : Option Addr) (s1l : Nat) (s1c : Nat) (s2p : Option Addr) (s2l : Nat) (s2c : Nat) (x3 : Int) (d_4 : Int) : compF Go.Proofs.Try.prog Go.Proofs.Try.f57 [] (Go.Proofs.Try.f57.body.getD .skip) [.agg #[.slice s1p s1l s1c, .slice s2p s2l s2c, .int .u64 x3], .int .u64 d_4] k = F57 k s1p s1l s1c s2p s2l s2c x3 d_4 := by kernel_rfl
theorem F57_calls {s1p : Option Addr} {s1l : Nat} {s1c : Nat} {s2p : Option Addr} {s2l : Nat} {s2c : Nat} {x3 : Int} {d_4 : Int} {w : World} {R : Ending → World → Prop} (h : F57 (fun v w => R (.returned v) w) s1p s1l s1c s2p s2l s2c x3 d_4 w) : Calls Go.Proofs.Try.prog 57 #[.agg #[.slice s1p s1l s1c, .slice s2p s2l s2c, .int .u64 x3], .int .u64 d_4] w R :=
  calls_of_compF noNum follows [] (f := 57) (fn := Go.Proofs.Try.f57) (body := Go.Proofs.Try.f57.body.getD .skip) (args := [.agg #[.slice s1p s1l s1c, .slice s2p s2l s2c, .int .u64 x3], .int .u64 d_4]) rfl rfl (Nat.le_of_ble_eq_true rfl) ((congrFun (F57_eq _ s1p s1l s1c s2p s2l s2c x3 d_4) w).mpr h)
theorem F57_call {s1p : Option Addr} {s1l : Nat} {s1c : Nat} {s2p : Option Addr} {s2l : Nat} {s2c : Nat} {x3 : Int} {d_4 : Int} {w : World} {g : Fn W (RTy.leaves (.s (.one (.int .i64))))} (h : F57 (fun v => Back (.s (.one (.int .i64))) g (.returned v)) s1p s1l s1c s2p s2l s2c x3 d_4 w) : CallT Go.Proofs.Try.prog 57 [.agg #[.slice s1p s1l s1c, .slice s2p s2l s2c, .int .u64 x3], .int .u64 d_4] (.s (.one (.int .i64))) g w := F57_calls h

/-! ## impl.span).ID -/
def F58 (k : Value → W) (s1p : Option Addr) (s1l : Nat) (s1c : Nat) (s2p : Option Addr) (s2l : Nat) (s2c : Nat) (x3 : Int) : W :=
 New [.slice s1p s1l s1c, .slice s2p s2l s2c, .int .u64 x3] 59 fun n4 =>
 LoadT (.int .u64) ⟨n4, 2, none⟩ fun x5 =>
 k (.int .u64 x5)
theorem F58_eq (k : Value → W) (s1p : Option Addr) (s1l : Nat) (s1c : Nat) (s2p : Option Addr) (s2l : Nat) (s2c : Nat) (x3 : Int) : compF Go.Proofs.Try.prog Go.Proofs.Try.f58 [] (Go.Proofs.Try.f58.body.getD .skip) [.agg #[.slice s1p s1l s1c, .slice s2p s2l s2c, .int .u64 x3]] k = F58 k s1p s1l s1c s2p s2l s2c x3 := by kernel_rfl
theorem F58_calls {s1p : Option Addr} {s1l : Nat} {s1c : Nat} {s2p : Option Addr} {s2l : Nat} {s2c : Nat} {x3 : Int} {w : World} {R : Ending → World → Prop} (h : F58 (fun v w => R (.returned v) w) s1p s1l s1c s2p s2l s2c x3 w) : Calls Go.Proofs.Try.prog 58 #[.agg #[.slice s1p s1l s1c, .slice s2p s2l s2c, .int .u64 x3]] w R :=
  calls_of_compF noNum follows [] (f := 58) (fn := Go.Proofs.Try.f58) (body := Go.Proofs.Try.f58.body.getD .skip) (args := [.agg #[.slice s1p s1l s1c, .slice s2p s2l s2c, .int .u64 x3]]) rfl rfl (Nat.le_of_ble_eq_true rfl) ((congrFun (F58_eq _ s1p s1l s1c s2p s2l s2c x3) w).mpr h)
theorem F58_call {s1p : Option Addr} {s1l : Nat} {s1c : Nat} {s2p : Option Addr} {s2l : Nat} {s2c : Nat} {x3 : Int} {w : World} {g : Fn W (RTy.leaves (.s (.one (.int .u64))))} (h : F58 (fun v => Back (.s (.one (.int .u64))) g (.returned v)) s1p s1l s1c s2p s2l s2c x3 w) : CallT Go.Proofs.Try.prog 58 [.agg #[.slice s1p s1l s1c, .slice s2p s2l s2c, .int .u64 x3]] (.s (.one (.int .u64))) g w := F58_calls h

/-! ## impl.span).LowAtDimension -/
def F59 (k : Value → W) (s1p : Option Addr) (s1l : Nat) (s1c : Nat) (s2p : Option Addr) (s2l : Nat) (s2c : Nat) (x3 : Int) (d_4 : Int) : W :=
 New [.slice s1p s1l s1c, .slice s2p s2l s2c, .int .u64 x3] 59 fun n5 =>
 LoadT .slice ⟨n5, 0, none⟩ fun s6p s6l s6c =>
 CallT Go.Proofs.Try.prog 61 [.slice s6p s6l s6c, .int .u64 d_4] (.s (.one (.int .i64))) fun x7 =>
 k (.int .i64 x7)
theorem F59_eq (k : Value → W) (s1p : Option Addr) (s1l : Nat) (s1c : Nat) (s2p : Option Addr) (s2l : Nat) (s2c : Nat) (x3 : Int) (d_4 : Int) : compF Go.Proofs.Try.prog Go.Proofs.Try.f59 [] (Go.Proofs.Try.f59.body.getD .skip) [.agg #[.slice s1p s1l s1c, .slice s2p s2l s2c, .int .u64 x3], .int .u64 d_4] k = F59 k s1p s1l s1c s2p s2l s2c x3 d_4 := by kernel_rfl
theorem F59_calls {s1p : Option Addr} {s1l : Nat} {s1c : Nat} {s2p : Option Addr} {s2l : Nat} {s2c : Nat} {x3 : Int} {d_4 : Int} {w : World} {R : Ending → World → Prop} (h : F59 (fun v w => R (.returned v) w) s1p s1l s1c s2p s2l s2c x3 d_4 w) : Calls Go.Proofs.Try.prog 59 #[.agg #[.slice s1p s1l s1c, .slice s2p s2l s2c, .int .u64 x3], .int .u64 d_4] w R :=
  calls_of_compF noNum follows [] (f := 59) (fn := Go.Proofs.Try.f59) (body := Go.Proofs.Try.f59.body.getD .skip) (args := [.agg #[.slice s1p s1l s1c, .slice s2p s2l s2c, .int .u64 x3], .int .u64 d_4]) rfl rfl (Nat.le_of_ble_eq_true rfl) ((congrFun (F59_eq _ s1p s1l s1c s2p s2l s2c x3 d_4) w).mpr h)
theorem F59_call {s1p : Option Addr} {s1l : Nat} {s1c : Nat} {s2p : Option Addr} {s2l : Nat} {s2c : Nat} {x3 : Int} {d_4 : Int} {w : World} {g : Fn W (RTy.leaves (.s (.one (.int .i64))))} (h : F59 (fun v => Back (.s (.one (.int .i64))) g (.returned v)) s1p s1l s1c s2p s2l s2c x3 d_4 w) : CallT Go.Proofs.Try.prog 59 [.agg #[.slice s1p s1l s1c, .slice s2p s2l s2c, .int .u64 x3], .int .u64 d_4] (.s (.one (.int .i64))) g w := F59_calls h

/-! ## impl.span).OverlapsAtDimension -/
def F60 (k : Value → W) (s1p : Option Addr) (s1l : Nat) (s1c : Nat) (s2p : Option Addr) (s2l : Nat) (s2c : Nat) (x3 : Int) (other_4 : Value) (d_5 : Int) : W :=
 New [.slice s1p s1l s1c, .slice s2p s2l s2c, .int .u64 x3] 59 fun n6 =>
 Drw <|
 LoadT .slice ⟨n6, 0, none⟩ fun s7p s7l s7c =>
 LoadT .slice ⟨n6, 1, none⟩ fun s8p s8l s8c =>
 LoadT (.int .u64) ⟨n6, 2, none⟩ fun x9 =>
 CallT Go.Proofs.Try.prog 59 [.agg #[.slice s7p s7l s7c, .slice s8p s8l s8c, .int .u64 x9], .int .u64 d_5] (.s (.one (.int .i64))) fun x10 =>
 NextT Go.Proofs.Try.prog (callMethod other_4 "HighAtDimension" [.int .u64 d_5].toArray) (.s (.one (.int .i64))) fun x11 =>
 Chk1 ⟨n6, 0, none⟩ (.slice s7p s7l s7c) <|
 Chk1 ⟨n6, 1, none⟩ (.slice s8p s8l s8c) <|
 Chk1 ⟨n6, 2, none⟩ (.int .u64 x9) <|
 BIf (decide (x10 ≤ x11)) (
  LoadT .slice ⟨n6, 0, none⟩ fun s12p s12l s12c =>
  LoadT .slice ⟨n6, 1, none⟩ fun s13p s13l s13c =>
  LoadT (.int .u64) ⟨n6, 2, none⟩ fun x14 =>
  NextT Go.Proofs.Try.prog (callMethod other_4 "LowAtDimension" [.int .u64 d_5].toArray) (.s (.one (.int .i64))) fun x15 =>
  Chk1 ⟨n6, 0, none⟩ (.slice s12p s12l s12c) <|
  Chk1 ⟨n6, 1, none⟩ (.slice s13p s13l s13c) <|
  Chk1 ⟨n6, 2, none⟩ (.int .u64 x14) <|
  Chk1 ⟨n6, 0, none⟩ (.slice s7p s7l s7c) <|
  Chk1 ⟨n6, 1, none⟩ (.slice s8p s8l s8c) <|
  Chk1 ⟨n6, 2, none⟩ (.int .u64 x9) <|
  CallT Go.Proofs.Try.prog 57 [.agg #[.slice s12p s12l s12c, .slice s13p s13l s13c, .int .u64 x14], .int .u64 d_5] (.s (.one (.int .i64))) fun x16 =>
  Chk1 ⟨n6, 0, none⟩ (.slice s7p s7l s7c) <|
  Chk1 ⟨n6, 1, none⟩ (.slice s8p s8l s8c) <|
  Chk1 ⟨n6, 2, none⟩ (.int .u64 x9) <|
  k (.bool (decide (x15 ≤ x16)))) (
  k (.bool false))
theorem F60_eq (k : Value → W) (s1p : Option Addr) (s1l : Nat) (s1c : Nat) (s2p : Option Addr) (s2l : Nat) (s2c : Nat) (x3 : Int) (other_4 : Value) (d_5 : Int) : compF Go.Proofs.Try.prog Go.Proofs.Try.f60 [] (Go.Proofs.Try.f60.body.getD .skip) [.agg #[.slice s1p s1l s1c, .slice s2p s2l s2c, .int .u64 x3], other_4, .int .u64 d_5] k = F60 k s1p s1l s1c s2p s2l s2c x3 other_4 d_5 := by kernel_rfl
theorem F60_calls {s1p : Option Addr} {s1l : Nat} {s1c : Nat} {s2p : Option Addr} {s2l : Nat} {s2c : Nat} {x3 : Int} {other_4 : Value} {d_5 : Int} {w : World} {R : Ending → World → Prop} (h : F60 (fun v w => R (.returned v) w) s1p s1l s1c s2p s2l s2c x3 other_4 d_5 w) : Calls Go.Proofs.Try.prog 60 #[.agg #[.slice s1p s1l s1c, .slice s2p s2l s2c, .int .u64 x3], other_4, .int .u64 d_5] w R :=
  calls_of_compF noNum follows [] (f := 60) (fn := Go.Proofs.Try.f60) (body := Go.Proofs.Try.f60.body.getD .skip) (args := [.agg #[.slice s1p s1l s1c, .slice s2p s2l s2c, .int .u64 x3], other_4, .int .u64 d_5]) rfl rfl (Nat.le_of_ble_eq_true rfl) ((congrFun (F60_eq _ s1p s1l s1c s2p s2l s2c x3 other_4 d_5) w).mpr h)
theorem F60_call {s1p : Option Addr} {s1l : Nat} {s1c : Nat} {s2p : Option Addr} {s2l : Nat} {s2c : Nat} {x3 : Int} {other_4 : Value} {d_5 : Int} {w : World} {g : Fn W (RTy.leaves (.s (.one .bool)))} (h : F60 (fun v => Back (.s (.one .bool)) g (.returned v)) s1p s1l s1c s2p s2l s2c x3 other_4 d_5 w) : CallT Go.Proofs.Try.prog 60 [.agg #[.slice s1p s1l s1c, .slice s2p s2l s2c, .int .u64 x3], other_4, .int .u64 d_5] (.s (.one .bool)) g w := F60_calls h

/-! ## augmentedtree.isRed -/
def F46 (k : Value → W) (node_1 : Option Addr) : W :=
 BIf (!node_1.isNone) (
  NN node_1 fun a2 =>
  LoadT .bool (a2.add 5) fun b3 =>
  k (.bool b3)) (
  k (.bool false))
theorem F46_eq (k : Value → W) (node_1 : Option Addr) : compF Go.Proofs.Try.prog Go.Proofs.Try.f46 [] (Go.Proofs.Try.f46.body.getD .skip) [.pointer node_1] k = F46 k node_1 := by kernel_rfl
theorem F46_calls {node_1 : Option Addr} {w : World} {R : Ending → World → Prop} (h : F46 (fun v w => R (.returned v) w) node_1 w) : Calls Go.Proofs.Try.prog 46 #[.pointer node_1] w R :=
  calls_of_compF noNum follows [] (f := 46) (fn := Go.Proofs.Try.f46) (body := Go.Proofs.Try.f46.body.getD .skip) (args := [.pointer node_1]) rfl rfl (Nat.le_of_ble_eq_true rfl) ((congrFun (F46_eq _ node_1) w).mpr h)
theorem F46_call {node_1 : Option Addr} {w : World} {g : Fn W (RTy.leaves (.s (.one .bool)))} (h : F46 (fun v => Back (.s (.one .bool)) g (.returned v)) node_1 w) : CallT Go.Proofs.Try.prog 46 [.pointer node_1] (.s (.one .bool)) g w := F46_calls h

/-! ## augmentedtree.intFromBool -/
def F47 (k : Value → W) (value_1 : Bool) : W :=
 BIf value_1 (
  k (.int .i64 1)) (
  k (.int .i64 0))
theorem F47_eq (k : Value → W) (value_1 : Bool) : compF Go.Proofs.Try.prog Go.Proofs.Try.f47 [] (Go.Proofs.Try.f47.body.getD .skip) [.bool value_1] k = F47 k value_1 := by kernel_rfl
theorem F47_calls {value_1 : Bool} {w : World} {R : Ending → World → Prop} (h : F47 (fun v w => R (.returned v) w) value_1 w) : Calls Go.Proofs.Try.prog 47 #[.bool value_1] w R :=
  calls_of_compF noNum follows [] (f := 47) (fn := Go.Proofs.Try.f47) (body := Go.Proofs.Try.f47.body.getD .skip) (args := [.bool value_1]) rfl rfl (Nat.le_of_ble_eq_true rfl) ((congrFun (F47_eq _ value_1) w).mpr h)
theorem F47_call {value_1 : Bool} {w : World} {g : Fn W (RTy.leaves (.s (.one (.int .i64))))} (h : F47 (fun v => Back (.s (.one (.int .i64))) g (.returned v)) value_1 w) : CallT Go.Proofs.Try.prog 47 [.bool value_1] (.s (.one (.int .i64))) g w := F47_calls h

/-! ## augmentedtree.takeOpposite -/
def F50 (k : Value → W) (value_1 : Int) : W :=
 k (.int .i64 (subI .i64 1 value_1))
theorem F50_eq (k : Value → W) (value_1 : Int) : compF Go.Proofs.Try.prog Go.Proofs.Try.f50 [] (Go.Proofs.Try.f50.body.getD .skip) [.int .i64 value_1] k = F50 k value_1 := by kernel_rfl
theorem F50_calls {value_1 : Int} {w : World} {R : Ending → World → Prop} (h : F50 (fun v w => R (.returned v) w) value_1 w) : Calls Go.Proofs.Try.prog 50 #[.int .i64 value_1] w R :=
  calls_of_compF noNum follows [] (f := 50) (fn := Go.Proofs.Try.f50) (body := Go.Proofs.Try.f50.body.getD .skip) (args := [.int .i64 value_1]) rfl rfl (Nat.le_of_ble_eq_true rfl) ((congrFun (F50_eq _ value_1) w).mpr h)
theorem F50_call {value_1 : Int} {w : World} {g : Fn W (RTy.leaves (.s (.one (.int .i64))))} (h : F50 (fun v => Back (.s (.one (.int .i64))) g (.returned v)) value_1 w) : CallT Go.Proofs.Try.prog 50 [.int .i64 value_1] (.s (.one (.int .i64))) g w := F50_calls h

/-! ## augmentedtree.compare -/
def F51 (k : Value → W) (nodeLow_1 : Int) (ivLow_2 : Int) (nodeID_3 : Int) (ivID_4 : Int) : W :=
 BIf (decide (ivLow_2 > nodeLow_1)) (
  k (.int .i64 1)) (
  BIf (decide (ivLow_2 < nodeLow_1)) (
   k (.int .i64 0)) (
   CallT Go.Proofs.Try.prog 47 [.bool (decide (ivID_4 > nodeID_3))] (.s (.one (.int .i64))) fun x5 =>
   k (.int .i64 x5)))
theorem F51_eq (k : Value → W) (nodeLow_1 : Int) (ivLow_2 : Int) (nodeID_3 : Int) (ivID_4 : Int) : compF Go.Proofs.Try.prog Go.Proofs.Try.f51 [] (Go.Proofs.Try.f51.body.getD .skip) [.int .i64 nodeLow_1, .int .i64 ivLow_2, .int .u64 nodeID_3, .int .u64 ivID_4] k = F51 k nodeLow_1 ivLow_2 nodeID_3 ivID_4 := by kernel_rfl
theorem F51_calls {nodeLow_1 : Int} {ivLow_2 : Int} {nodeID_3 : Int} {ivID_4 : Int} {w : World} {R : Ending → World → Prop} (h : F51 (fun v w => R (.returned v) w) nodeLow_1 ivLow_2 nodeID_3 ivID_4 w) : Calls Go.Proofs.Try.prog 51 #[.int .i64 nodeLow_1, .int .i64 ivLow_2, .int .u64 nodeID_3, .int .u64 ivID_4] w R :=
  calls_of_compF noNum follows [] (f := 51) (fn := Go.Proofs.Try.f51) (body := Go.Proofs.Try.f51.body.getD .skip) (args := [.int .i64 nodeLow_1, .int .i64 ivLow_2, .int .u64 nodeID_3, .int .u64 ivID_4]) rfl rfl (Nat.le_of_ble_eq_true rfl) ((congrFun (F51_eq _ nodeLow_1 ivLow_2 nodeID_3 ivID_4) w).mpr h)
theorem F51_call {nodeLow_1 : Int} {ivLow_2 : Int} {nodeID_3 : Int} {ivID_4 : Int} {w : World} {g : Fn W (RTy.leaves (.s (.one (.int .i64))))} (h : F51 (fun v => Back (.s (.one (.int .i64))) g (.returned v)) nodeLow_1 ivLow_2 nodeID_3 ivID_4 w) : CallT Go.Proofs.Try.prog 51 [.int .i64 nodeLow_1, .int .i64 ivLow_2, .int .u64 nodeID_3, .int .u64 ivID_4] (.s (.one (.int .i64))) g w := F51_calls h

/-! ## augmentedtree.overlaps -/
def F53 (k : Value → W) (high_1 : Int) (otherHigh_2 : Int) (low_3 : Int) (otherLow_4 : Int) : W :=
 BIf (decide (high_1 ≥ otherLow_4)) (
  Bind (decide (low_3 ≤ otherHigh_2)) fun y5 =>
  k (.bool y5)) (
  k (.bool false))
theorem F53_eq (k : Value → W) (high_1 : Int) (otherHigh_2 : Int) (low_3 : Int) (otherLow_4 : Int) : compF Go.Proofs.Try.prog Go.Proofs.Try.f53 [] (Go.Proofs.Try.f53.body.getD .skip) [.int .i64 high_1, .int .i64 otherHigh_2, .int .i64 low_3, .int .i64 otherLow_4] k = F53 k high_1 otherHigh_2 low_3 otherLow_4 := by kernel_rfl
theorem F53_calls {high_1 : Int} {otherHigh_2 : Int} {low_3 : Int} {otherLow_4 : Int} {w : World} {R : Ending → World → Prop} (h : F53 (fun v w => R (.returned v) w) high_1 otherHigh_2 low_3 otherLow_4 w) : Calls Go.Proofs.Try.prog 53 #[.int .i64 high_1, .int .i64 otherHigh_2, .int .i64 low_3, .int .i64 otherLow_4] w R :=
  calls_of_compF noNum follows [] (f := 53) (fn := Go.Proofs.Try.f53) (body := Go.Proofs.Try.f53.body.getD .skip) (args := [.int .i64 high_1, .int .i64 otherHigh_2, .int .i64 low_3, .int .i64 otherLow_4]) rfl rfl (Nat.le_of_ble_eq_true rfl) ((congrFun (F53_eq _ high_1 otherHigh_2 low_3 otherLow_4) w).mpr h)
theorem F53_call {high_1 : Int} {otherHigh_2 : Int} {low_3 : Int} {otherLow_4 : Int} {w : World} {g : Fn W (RTy.leaves (.s (.one .bool)))} (h : F53 (fun v => Back (.s (.one .bool)) g (.returned v)) high_1 otherHigh_2 low_3 otherLow_4 w) : CallT Go.Proofs.Try.prog 53 [.int .i64 high_1, .int .i64 otherHigh_2, .int .i64 low_3, .int .i64 otherLow_4] (.s (.one .bool)) g w := F53_calls h

/-! ## augmentedtree.setMax -/
def F55_J3 (k : Value → W) (parent_30 : Option Addr) (b31 : Bool) : W :=
 BIf b31 (
  NN parent_30 fun a32 =>
  Req (0 ≤ (1 : Int) ∧ (1 : Int) < (2 : Int)) <|
  LoadT .ptr ((a32.add 3).add ((1 : Int).toNat)) fun p33 =>
  NN p33 fun a34 =>
  LoadT (.int .i64) (a34.add 1) fun x35 =>
  NN parent_30 fun a36 =>
  Store1 (a36.add 1) (.int .i64 x35) <|
  k (.tuple #[])) (
  k (.tuple #[]))
def F55_J2 (k : Value → W) (parent_21 : Option Addr) : W :=
 Drw <|
 NN parent_21 fun a22 =>
 Req (0 ≤ (1 : Int) ∧ (1 : Int) < (2 : Int)) <|
 LoadT .ptr ((a22.add 3).add ((1 : Int).toNat)) fun p23 =>
 BIf (!p23.isNone) (
  NN parent_21 fun a24 =>
  Req (0 ≤ (1 : Int) ∧ (1 : Int) < (2 : Int)) <|
  LoadT .ptr ((a24.add 3).add ((1 : Int).toNat)) fun p25 =>
  NN p25 fun a26 =>
  LoadT (.int .i64) (a26.add 1) fun x27 =>
  NN parent_21 fun a28 =>
  LoadT (.int .i64) (a28.add 1) fun x29 =>
  F55_J3 k parent_21 (decide (x27 > x29))) (
  F55_J3 k parent_21 false)
def F55_J1 (k : Value → W) (parent_14 : Option Addr) (b15 : Bool) : W :=
 BIf b15 (
  NN parent_14 fun a16 =>
  Req (0 ≤ (0 : Int) ∧ (0 : Int) < (2 : Int)) <|
  LoadT .ptr ((a16.add 3).add ((0 : Int).toNat)) fun p17 =>
  NN p17 fun a18 =>
  LoadT (.int .i64) (a18.add 1) fun x19 =>
  NN parent_14 fun a20 =>
  Store1 (a20.add 1) (.int .i64 x19) <|
  F55_J2 k parent_14) (
  F55_J2 k parent_14)
def F55 (k : Value → W) (parent_1 : Option Addr) : W :=
 NN parent_1 fun a2 =>
 LoadT .any a2 fun v3 =>
 NextT Go.Proofs.Try.prog (callMethod v3 "HighAtDimension" [.int .u64 1].toArray) (.s (.one (.int .i64))) fun x4 =>
 NN parent_1 fun a5 =>
 Store1 (a5.add 1) (.int .i64 x4) <|
 Drw <|
 NN parent_1 fun a6 =>
 Req (0 ≤ (0 : Int) ∧ (0 : Int) < (2 : Int)) <|
 LoadT .ptr ((a6.add 3).add ((0 : Int).toNat)) fun p7 =>
 BIf (!p7.isNone) (
  NN parent_1 fun a8 =>
  Req (0 ≤ (0 : Int) ∧ (0 : Int) < (2 : Int)) <|
  LoadT .ptr ((a8.add 3).add ((0 : Int).toNat)) fun p9 =>
  NN p9 fun a10 =>
  LoadT (.int .i64) (a10.add 1) fun x11 =>
  NN parent_1 fun a12 =>
  LoadT (.int .i64) (a12.add 1) fun x13 =>
  F55_J1 k parent_1 (decide (x11 > x13))) (
  F55_J1 k parent_1 false)
theorem F55_eq (k : Value → W) (parent_1 : Option Addr) : compF Go.Proofs.Try.prog Go.Proofs.Try.f55 [] (Go.Proofs.Try.f55.body.getD .skip) [.pointer parent_1] k = F55 k parent_1 := by kernel_rfl
theorem F55_calls {parent_1 : Option Addr} {w : World} {R : Ending → World → Prop} (h : F55 (fun v w => R (.returned v) w) parent_1 w) : Calls Go.Proofs.Try.prog 55 #[.pointer parent_1] w R :=
  calls_of_compF noNum follows [] (f := 55) (fn := Go.Proofs.Try.f55) (body := Go.Proofs.Try.f55.body.getD .skip) (args := [.pointer parent_1]) rfl rfl (Nat.le_of_ble_eq_true rfl) ((congrFun (F55_eq _ parent_1) w).mpr h)
theorem F55_call {parent_1 : Option Addr} {w : World} {g : Fn W (RTy.leaves (.tup []))} (h : F55 (fun v => Back (.tup []) g (.returned v)) parent_1 w) : CallT Go.Proofs.Try.prog 55 [.pointer parent_1] (.tup []) g w := F55_calls h

/-! ## augmentedtree.setMin -/
def F56_J4 (k : Value → W) (parent_37 : Option Addr) : W :=
 Drw <|
 NN parent_37 fun a38 =>
 LoadT .any a38 fun v39 =>
 NN parent_37 fun a40 =>
 LoadT (.int .i64) (a40.add 2) fun x41 =>
 NextT Go.Proofs.Try.prog (callMethod v39 "LowAtDimension" [.int .u64 1].toArray) (.s (.one (.int .i64))) fun x42 =>
 Chk1 (a40.add 2) (.int .i64 x41) <|
 BIf (decide (x42 < x41)) (
  NN parent_37 fun a43 =>
  LoadT .any a43 fun v44 =>
  NextT Go.Proofs.Try.prog (callMethod v44 "LowAtDimension" [.int .u64 1].toArray) (.s (.one (.int .i64))) fun x45 =>
  NN parent_37 fun a46 =>
  Store1 (a46.add 2) (.int .i64 x45) <|
  k (.tuple #[])) (
  k (.tuple #[]))
def F56_J3 (k : Value → W) (parent_30 : Option Addr) (b31 : Bool) : W :=
 BIf b31 (
  NN parent_30 fun a32 =>
  Req (0 ≤ (1 : Int) ∧ (1 : Int) < (2 : Int)) <|
  LoadT .ptr ((a32.add 3).add ((1 : Int).toNat)) fun p33 =>
  NN p33 fun a34 =>
  LoadT (.int .i64) (a34.add 2) fun x35 =>
  NN parent_30 fun a36 =>
  Store1 (a36.add 2) (.int .i64 x35) <|
  F56_J4 k parent_30) (
  F56_J4 k parent_30)
def F56_J2 (k : Value → W) (parent_21 : Option Addr) : W :=
 Drw <|
 NN parent_21 fun a22 =>
 Req (0 ≤ (1 : Int) ∧ (1 : Int) < (2 : Int)) <|
 LoadT .ptr ((a22.add 3).add ((1 : Int).toNat)) fun p23 =>
 BIf (!p23.isNone) (
  NN parent_21 fun a24 =>
  Req (0 ≤ (1 : Int) ∧ (1 : Int) < (2 : Int)) <|
  LoadT .ptr ((a24.add 3).add ((1 : Int).toNat)) fun p25 =>
  NN p25 fun a26 =>
  LoadT (.int .i64) (a26.add 2) fun x27 =>
  NN parent_21 fun a28 =>
  LoadT (.int .i64) (a28.add 2) fun x29 =>
  F56_J3 k parent_21 (decide (x27 < x29))) (
  F56_J3 k parent_21 false)
def F56_J1 (k : Value → W) (parent_14 : Option Addr) (b15 : Bool) : W :=
 BIf b15 (
  NN parent_14 fun a16 =>
  Req (0 ≤ (0 : Int) ∧ (0 : Int) < (2 : Int)) <|
  LoadT .ptr ((a16.add 3).add ((0 : Int).toNat)) fun p17 =>
  NN p17 fun a18 =>
  LoadT (.int .i64) (a18.add 2) fun x19 =>
  NN parent_14 fun a20 =>
  Store1 (a20.add 2) (.int .i64 x19) <|
  F56_J2 k parent_14) (
  F56_J2 k parent_14)
def F56 (k : Value → W) (parent_1 : Option Addr) : W :=
 NN parent_1 fun a2 =>
 LoadT .any a2 fun v3 =>
 NextT Go.Proofs.Try.prog (callMethod v3 "LowAtDimension" [.int .u64 1].toArray) (.s (.one (.int .i64))) fun x4 =>
 NN parent_1 fun a5 =>
 Store1 (a5.add 2) (.int .i64 x4) <|
 Drw <|
 NN parent_1 fun a6 =>
 Req (0 ≤ (0 : Int) ∧ (0 : Int) < (2 : Int)) <|
 LoadT .ptr ((a6.add 3).add ((0 : Int).toNat)) fun p7 =>
 BIf (!p7.isNone) (
  NN parent_1 fun a8 =>
  Req (0 ≤ (0 : Int) ∧ (0 : Int) < (2 : Int)) <|
  LoadT .ptr ((a8.add 3).add ((0 : Int).toNat)) fun p9 =>
  NN p9 fun a10 =>
  LoadT (.int .i64) (a10.add 2) fun x11 =>
  NN parent_1 fun a12 =>
  LoadT (.int .i64) (a12.add 2) fun x13 =>
  F56_J1 k parent_1 (decide (x11 < x13))) (
  F56_J1 k parent_1 false)
theorem F56_eq (k : Value → W) (parent_1 : Option Addr) : compF Go.Proofs.Try.prog Go.Proofs.Try.f56 [] (Go.Proofs.Try.f56.body.getD .skip) [.pointer parent_1] k = F56 k parent_1 := by kernel_rfl
theorem F56_calls {parent_1 : Option Addr} {w : World} {R : Ending → World → Prop} (h : F56 (fun v w => R (.returned v) w) parent_1 w) : Calls Go.Proofs.Try.prog 56 #[.pointer parent_1] w R :=
  calls_of_compF noNum follows [] (f := 56) (fn := Go.Proofs.Try.f56) (body := Go.Proofs.Try.f56.body.getD .skip) (args := [.pointer parent_1]) rfl rfl (Nat.le_of_ble_eq_true rfl) ((congrFun (F56_eq _ parent_1) w).mpr h)
theorem F56_call {parent_1 : Option Addr} {w : World} {g : Fn W (RTy.leaves (.tup []))} (h : F56 (fun v => Back (.tup []) g (.returned v)) parent_1 w) : CallT Go.Proofs.Try.prog 56 [.pointer parent_1] (.tup []) g w := F56_calls h

/-! ## augmentedtree.node).adjustRange -/
def F52 (k : Value → W) (n_1 : Option Addr) : W :=
 CallT Go.Proofs.Try.prog 56 [.pointer n_1] (.tup []) <|
 CallT Go.Proofs.Try.prog 55 [.pointer n_1] (.tup []) <|
 k (.tuple #[])
theorem F52_eq (k : Value → W) (n_1 : Option Addr) : compF Go.Proofs.Try.prog Go.Proofs.Try.f52 [] (Go.Proofs.Try.f52.body.getD .skip) [.pointer n_1] k = F52 k n_1 := by kernel_rfl
theorem F52_calls {n_1 : Option Addr} {w : World} {R : Ending → World → Prop} (h : F52 (fun v w => R (.returned v) w) n_1 w) : Calls Go.Proofs.Try.prog 52 #[.pointer n_1] w R :=
  calls_of_compF noNum follows [] (f := 52) (fn := Go.Proofs.Try.f52) (body := Go.Proofs.Try.f52.body.getD .skip) (args := [.pointer n_1]) rfl rfl (Nat.le_of_ble_eq_true rfl) ((congrFun (F52_eq _ n_1) w).mpr h)
theorem F52_call {n_1 : Option Addr} {w : World} {g : Fn W (RTy.leaves (.tup []))} (h : F52 (fun v => Back (.tup []) g (.returned v)) n_1 w) : CallT Go.Proofs.Try.prog 52 [.pointer n_1] (.tup []) g w := F52_calls h

/-! ## augmentedtree.rotate -/
def F48 (k : Value → W) (parent_1 : Option Addr) (dir_2 : Int) : W :=
 CallT Go.Proofs.Try.prog 50 [.int .i64 dir_2] (.s (.one (.int .i64))) fun x3 =>
 NN parent_1 fun a4 =>
 Req (0 ≤ x3 ∧ x3 < (2 : Int)) <|
 LoadT .ptr ((a4.add 3).add x3.toNat) fun p5 =>
 Drw <|
 NN p5 fun a6 =>
 Req (0 ≤ dir_2 ∧ dir_2 < (2 : Int)) <|
 LoadT .ptr ((a6.add 3).add dir_2.toNat) fun p7 =>
 NN parent_1 fun a8 =>
 Req (0 ≤ x3 ∧ x3 < (2 : Int)) <|
 Store1 ((a8.add 3).add x3.toNat) (.pointer p7) <|
 NN p5 fun a9 =>
 Req (0 ≤ dir_2 ∧ dir_2 < (2 : Int)) <|
 Store1 ((a9.add 3).add dir_2.toNat) (.pointer parent_1) <|
 NN parent_1 fun a10 =>
 Store1 (a10.add 5) (.bool true) <|
 NN p5 fun a11 =>
 Store1 (a11.add 5) (.bool false) <|
 NN parent_1 fun a12 =>
 LoadT (.int .i64) (a12.add 1) fun x13 =>
 NN p5 fun a14 =>
 Store1 (a14.add 1) (.int .i64 x13) <|
 CallT Go.Proofs.Try.prog 55 [.pointer p5] (.tup []) <|
 CallT Go.Proofs.Try.prog 55 [.pointer parent_1] (.tup []) <|
 CallT Go.Proofs.Try.prog 56 [.pointer p5] (.tup []) <|
 CallT Go.Proofs.Try.prog 56 [.pointer parent_1] (.tup []) <|
 k (.pointer p5)
theorem F48_eq (k : Value → W) (parent_1 : Option Addr) (dir_2 : Int) : compF Go.Proofs.Try.prog Go.Proofs.Try.f48 [] (Go.Proofs.Try.f48.body.getD .skip) [.pointer parent_1, .int .i64 dir_2] k = F48 k parent_1 dir_2 := by kernel_rfl
theorem F48_calls {parent_1 : Option Addr} {dir_2 : Int} {w : World} {R : Ending → World → Prop} (h : F48 (fun v w => R (.returned v) w) parent_1 dir_2 w) : Calls Go.Proofs.Try.prog 48 #[.pointer parent_1, .int .i64 dir_2] w R :=
  calls_of_compF noNum follows [] (f := 48) (fn := Go.Proofs.Try.f48) (body := Go.Proofs.Try.f48.body.getD .skip) (args := [.pointer parent_1, .int .i64 dir_2]) rfl rfl (Nat.le_of_ble_eq_true rfl) ((congrFun (F48_eq _ parent_1 dir_2) w).mpr h)
theorem F48_call {parent_1 : Option Addr} {dir_2 : Int} {w : World} {g : Fn W (RTy.leaves (.s (.one .ptr)))} (h : F48 (fun v => Back (.s (.one .ptr)) g (.returned v)) parent_1 dir_2 w) : CallT Go.Proofs.Try.prog 48 [.pointer parent_1, .int .i64 dir_2] (.s (.one .ptr)) g w := F48_calls h

/-! ## augmentedtree.doubleRotate -/
def F49 (k : Value → W) (parent_1 : Option Addr) (dir_2 : Int) : W :=
 CallT Go.Proofs.Try.prog 50 [.int .i64 dir_2] (.s (.one (.int .i64))) fun x3 =>
 Drw <|
 NN parent_1 fun a4 =>
 Req (0 ≤ x3 ∧ x3 < (2 : Int)) <|
 LoadT .ptr ((a4.add 3).add x3.toNat) fun p5 =>
 NN parent_1 fun a6 =>
 CallT Go.Proofs.Try.prog 48 [.pointer p5, .int .i64 x3] (.s (.one .ptr)) fun p7 =>
 Req (0 ≤ x3 ∧ x3 < (2 : Int)) <|
 Store1 ((a6.add 3).add x3.toNat) (.pointer p7) <|
 CallT Go.Proofs.Try.prog 48 [.pointer parent_1, .int .i64 dir_2] (.s (.one .ptr)) fun p8 =>
 k (.pointer p8)
theorem F49_eq (k : Value → W) (parent_1 : Option Addr) (dir_2 : Int) : compF Go.Proofs.Try.prog Go.Proofs.Try.f49 [] (Go.Proofs.Try.f49.body.getD .skip) [.pointer parent_1, .int .i64 dir_2] k = F49 k parent_1 dir_2 := by kernel_rfl
theorem F49_calls {parent_1 : Option Addr} {dir_2 : Int} {w : World} {R : Ending → World → Prop} (h : F49 (fun v w => R (.returned v) w) parent_1 dir_2 w) : Calls Go.Proofs.Try.prog 49 #[.pointer parent_1, .int .i64 dir_2] w R :=
  calls_of_compF noNum follows [] (f := 49) (fn := Go.Proofs.Try.f49) (body := Go.Proofs.Try.f49.body.getD .skip) (args := [.pointer parent_1, .int .i64 dir_2]) rfl rfl (Nat.le_of_ble_eq_true rfl) ((congrFun (F49_eq _ parent_1 dir_2) w).mpr h)
theorem F49_call {parent_1 : Option Addr} {dir_2 : Int} {w : World} {g : Fn W (RTy.leaves (.s (.one .ptr)))} (h : F49 (fun v => Back (.s (.one .ptr)) g (.returned v)) parent_1 dir_2 w) : CallT Go.Proofs.Try.prog 49 [.pointer parent_1, .int .i64 dir_2] (.s (.one .ptr)) g w := F49_calls h

/-! ## augmentedtree.newNode -/
def F45 (k : Value → W) (interval_1 : Value) (min_2 : Int) (max_3 : Int) (dimension_4 : Int) : W :=
 Req (oneC interval_1 = true) <|
 New [interval_1, .int .i64 max_3, .int .i64 min_2, .pointer none, .pointer none, .bool true, .int .u64 0] 71 fun n5 =>
 IfaceNil interval_1 fun b6 =>
 BIf (!b6) (
  NextT Go.Proofs.Try.prog (callMethod interval_1 "ID" [].toArray) (.s (.one (.int .u64))) fun x7 =>
  Store1 ⟨n5, 6, none⟩ (.int .u64 x7) <|
  k (.pointer (some ⟨n5, 0, none⟩))) (
  k (.pointer (some ⟨n5, 0, none⟩)))
theorem F45_eq (k : Value → W) (interval_1 : Value) (min_2 : Int) (max_3 : Int) (dimension_4 : Int) : compF Go.Proofs.Try.prog Go.Proofs.Try.f45 [] (Go.Proofs.Try.f45.body.getD .skip) [interval_1, .int .i64 min_2, .int .i64 max_3, .int .u64 dimension_4] k = F45 k interval_1 min_2 max_3 dimension_4 := by kernel_rfl
theorem F45_calls {interval_1 : Value} {min_2 : Int} {max_3 : Int} {dimension_4 : Int} {w : World} {R : Ending → World → Prop} (h : F45 (fun v w => R (.returned v) w) interval_1 min_2 max_3 dimension_4 w) : Calls Go.Proofs.Try.prog 45 #[interval_1, .int .i64 min_2, .int .i64 max_3, .int .u64 dimension_4] w R :=
  calls_of_compF noNum follows [] (f := 45) (fn := Go.Proofs.Try.f45) (body := Go.Proofs.Try.f45.body.getD .skip) (args := [interval_1, .int .i64 min_2, .int .i64 max_3, .int .u64 dimension_4]) rfl rfl (Nat.le_of_ble_eq_true rfl) ((congrFun (F45_eq _ interval_1 min_2 max_3 dimension_4) w).mpr h)
theorem F45_call {interval_1 : Value} {min_2 : Int} {max_3 : Int} {dimension_4 : Int} {w : World} {g : Fn W (RTy.leaves (.s (.one .ptr)))} (h : F45 (fun v => Back (.s (.one .ptr)) g (.returned v)) interval_1 min_2 max_3 dimension_4 w) : CallT Go.Proofs.Try.prog 45 [interval_1, .int .i64 min_2, .int .i64 max_3, .int .u64 dimension_4] (.s (.one .ptr)) g w := F45_calls h

/-! ## augmentedtree.tree).resetDummy -/
def F39 (k : Value → W) (tree_1 : Option Addr) : W :=
 Drw <|
 NN tree_1 fun a2 =>
 Req (0 ≤ (0 : Int) ∧ (0 : Int) < (2 : Int)) <|
 NN tree_1 fun a3 =>
 Store1 (((a2.add 3).add 3).add ((0 : Int).toNat)) (.pointer none) <|
 Req (0 ≤ (1 : Int) ∧ (1 : Int) < (2 : Int)) <|
 Store1 (((a3.add 3).add 3).add ((1 : Int).toNat)) (.pointer none) <|
 NN tree_1 fun a4 =>
 Store1 ((a4.add 3).add 5) (.bool false) <|
 k (.tuple #[])
theorem F39_eq (k : Value → W) (tree_1 : Option Addr) : compF Go.Proofs.Try.prog Go.Proofs.Try.f39 [] (Go.Proofs.Try.f39.body.getD .skip) [.pointer tree_1] k = F39 k tree_1 := by kernel_rfl
theorem F39_calls {tree_1 : Option Addr} {w : World} {R : Ending → World → Prop} (h : F39 (fun v w => R (.returned v) w) tree_1 w) : Calls Go.Proofs.Try.prog 39 #[.pointer tree_1] w R :=
  calls_of_compF noNum follows [] (f := 39) (fn := Go.Proofs.Try.f39) (body := Go.Proofs.Try.f39.body.getD .skip) (args := [.pointer tree_1]) rfl rfl (Nat.le_of_ble_eq_true rfl) ((congrFun (F39_eq _ tree_1) w).mpr h)
theorem F39_call {tree_1 : Option Addr} {w : World} {g : Fn W (RTy.leaves (.tup []))} (h : F39 (fun v => Back (.tup []) g (.returned v)) tree_1 w) : CallT Go.Proofs.Try.prog 39 [.pointer tree_1] (.tup []) g w := F39_calls h

end Go.Proofs.Ythapmkjmfkmnoaa.E
