/-
  Printed by this session's own program eng.py out of Lean's print of the loaded functions: what each function's body asks, in the engine's words; each is checked against the program by the kernel.
-/
import Derived.Test.YtofnapddoiodkaaEng
import Derived.Test.YtofnapddoiodkaaProg
namespace Go.Proofs.Ytofnapddoiodkaa.E
open Go
set_option linter.unusedVariables false
set_option maxRecDepth 100000
theorem noNum : NoNum Go.Proofs.Try.prog := noNum_of (by kernel_rfl)
theorem follows : (Go.Proofs.Try.prog).follows .mixedOrders = true := by kernel_rfl

/-! ## plus.newLeafNode -/
def F18 (k : Value → W) (size_1 : Int) : W :=
 RawT Go.Proofs.Try.prog (Instr.makeSlice 76 (.int .i64 0) (.int .u64 size_1)) (.s (.one .slice)) fun s2p s2l s2c =>
 New [.pointer none, .slice s2p s2l s2c] 78 fun n3 =>
 k (.pointer (some ⟨n3, 0, none⟩))
theorem F18_eq (k : Value → W) (size_1 : Int) : compF Go.Proofs.Try.prog Go.Proofs.Try.f18 [] (Go.Proofs.Try.f18.body.getD .skip) [.int .u64 size_1] k = F18 k size_1 := by kernel_rfl
theorem F18_calls {size_1 : Int} {w : World} {R : Ending → World → Prop} (h : F18 (fun v w => R (.returned v) w) size_1 w) : Calls Go.Proofs.Try.prog 18 #[.int .u64 size_1] w R :=
  calls_of_compF noNum follows [] (f := 18) (fn := Go.Proofs.Try.f18) (body := Go.Proofs.Try.f18.body.getD .skip) (args := [.int .u64 size_1]) rfl rfl (Nat.le_of_ble_eq_true rfl) ((congrFun (F18_eq _ size_1) w).mpr h)
theorem F18_call {size_1 : Int} {w : World} {g : Fn W (RTy.leaves (.s (.one .ptr)))} (h : F18 (fun v => Back (.s (.one .ptr)) g (.returned v)) size_1 w) : CallT Go.Proofs.Try.prog 18 [.int .u64 size_1] (.s (.one .ptr)) g w := F18_calls h

/-! ## plus.newBTree -/
def F14 (k : Value → W) (nodeSize_1 : Int) : W :=
 CallT Go.Proofs.Try.prog 18 [.int .u64 nodeSize_1] (.s (.one .ptr)) fun p2 =>
 New [.iface 68 (.pointer p2), .int .u64 nodeSize_1, .int .u64 0] 64 fun n3 =>
 k (.pointer (some ⟨n3, 0, none⟩))
theorem F14_eq (k : Value → W) (nodeSize_1 : Int) : compF Go.Proofs.Try.prog Go.Proofs.Try.f14 [] (Go.Proofs.Try.f14.body.getD .skip) [.int .u64 nodeSize_1] k = F14 k nodeSize_1 := by kernel_rfl
theorem F14_calls {nodeSize_1 : Int} {w : World} {R : Ending → World → Prop} (h : F14 (fun v w => R (.returned v) w) nodeSize_1 w) : Calls Go.Proofs.Try.prog 14 #[.int .u64 nodeSize_1] w R :=
  calls_of_compF noNum follows [] (f := 14) (fn := Go.Proofs.Try.f14) (body := Go.Proofs.Try.f14.body.getD .skip) (args := [.int .u64 nodeSize_1]) rfl rfl (Nat.le_of_ble_eq_true rfl) ((congrFun (F14_eq _ nodeSize_1) w).mpr h)
theorem F14_call {nodeSize_1 : Int} {w : World} {g : Fn W (RTy.leaves (.s (.one .ptr)))} (h : F14 (fun v => Back (.s (.one .ptr)) g (.returned v)) nodeSize_1 w) : CallT Go.Proofs.Try.prog 14 [.int .u64 nodeSize_1] (.s (.one .ptr)) g w := F14_calls h

/-! ## plus.New -/
def F7 (k : Value → W) (nodeSize_1 : Int) : W :=
 CallT Go.Proofs.Try.prog 14 [.int .u64 nodeSize_1] (.s (.one .ptr)) fun p2 =>
 k (.pointer p2)
theorem F7_eq (k : Value → W) (nodeSize_1 : Int) : compF Go.Proofs.Try.prog Go.Proofs.Try.f7 [] (Go.Proofs.Try.f7.body.getD .skip) [.int .u64 nodeSize_1] k = F7 k nodeSize_1 := by kernel_rfl
theorem F7_calls {nodeSize_1 : Int} {w : World} {R : Ending → World → Prop} (h : F7 (fun v w => R (.returned v) w) nodeSize_1 w) : Calls Go.Proofs.Try.prog 7 #[.int .u64 nodeSize_1] w R :=
  calls_of_compF noNum follows [] (f := 7) (fn := Go.Proofs.Try.f7) (body := Go.Proofs.Try.f7.body.getD .skip) (args := [.int .u64 nodeSize_1]) rfl rfl (Nat.le_of_ble_eq_true rfl) ((congrFun (F7_eq _ nodeSize_1) w).mpr h)
theorem F7_call {nodeSize_1 : Int} {w : World} {g : Fn W (RTy.leaves (.s (.one .ptr)))} (h : F7 (fun v => Back (.s (.one .ptr)) g (.returned v)) nodeSize_1 w) : CallT Go.Proofs.Try.prog 7 [.int .u64 nodeSize_1] (.s (.one .ptr)) g w := F7_calls h

/-! ## plus.keySearch -/
def F23_L1 (k : Value → W) (again8 : Option Addr → Nat → Nat → Value → Int → Int → W) (keys_4p : Option Addr) (keys_4l : Nat) (keys_4c : Nat) (key_5 : Value) (low_6 : Int) (high_7 : Int) : W :=
 BIf (decide (low_6 ≤ high_7)) (
  Req (2 ≠ (0 : Int)) <|
  Bind (quoI .i64 (addI .i64 high_7 low_6) 2 : Int) fun mid_9 =>
  NN keys_4p fun a10 =>
  Req (0 ≤ mid_9 ∧ mid_9 < ((keys_4l : Nat) : Int)) <|
  LoadT .any (a10.add mid_9.toNat) fun v11 =>
  NextT Go.Proofs.Try.prog (callMethod v11 "Compare" [key_5].toArray) (.s (.one (.int .i64))) fun x12 =>
  BIf (x12 == 1) (
   again8 keys_4p keys_4l keys_4c key_5 (addI .i64 mid_9 1) high_7) (
   BIf (x12 == (-1)) (
    again8 keys_4p keys_4l keys_4c key_5 low_6 (subI .i64 mid_9 1)) (
    BIf (x12 == 0) (
     k (.int .i64 mid_9)) (
     again8 keys_4p keys_4l keys_4c key_5 low_6 high_7)))) (
  k (.int .i64 low_6))
theorem F23_L1_rule {k : Value → W} (I : Option Addr → Nat → Nat → Value → Int → Int → W) (μ : Option Addr → Nat → Nat → Value → Int → Int → World → Nat)
  (hr : ∀ (keys_4p : Option Addr) (keys_4l : Nat) (keys_4c : Nat) (key_5 : Value) (low_6 : Int) (high_7 : Int) (w : World), I keys_4p keys_4l keys_4c key_5 low_6 high_7 w → F23_L1 k (fun keys_4p' keys_4l' keys_4c' key_5' low_6' high_7' w' => I keys_4p' keys_4l' keys_4c' key_5' low_6' high_7' w' ∧ μ keys_4p' keys_4l' keys_4c' key_5' low_6' high_7' w' < μ keys_4p keys_4l keys_4c key_5 low_6 high_7 w) keys_4p keys_4l keys_4c key_5 low_6 high_7 w)
  {w : World} {keys_4p : Option Addr} {keys_4l : Nat} {keys_4c : Nat} {key_5 : Value} {low_6 : Int} {high_7 : Int} (h : I keys_4p keys_4l keys_4c key_5 low_6 high_7 w) : Loop [.slice, .any, (.int .i64), (.int .i64)] (F23_L1 k) keys_4p keys_4l keys_4c key_5 low_6 high_7 w :=
  Loop_intro (ts := [.slice, .any, (.int .i64), (.int .i64)]) (s := ((keys_4p, keys_4l, keys_4c), key_5, low_6, high_7, ())) (fun s w => I s.1.1 s.1.2.1 s.1.2.2 s.2.1 s.2.2.1 s.2.2.2.1 w) (fun s w => μ s.1.1 s.1.2.1 s.1.2.2 s.2.1 s.2.2.1 s.2.2.2.1 w) h (fun s w h => hr s.1.1 s.1.2.1 s.1.2.2 s.2.1 s.2.2.1 s.2.2.2.1 w h)
def F23 (k : Value → W) (keys_1p : Option Addr) (keys_1l : Nat) (keys_1c : Nat) (key_2 : Value) : W :=
 Bind (subI .i64 ((keys_1l : Nat) : Int) 1 : Int) fun high_3 =>
 Loop [.slice, .any, (.int .i64), (.int .i64)] (F23_L1 k) keys_1p keys_1l keys_1c key_2 0 high_3
theorem F23_eq (k : Value → W) (keys_1p : Option Addr) (keys_1l : Nat) (keys_1c : Nat) (key_2 : Value) : compF Go.Proofs.Try.prog Go.Proofs.Try.f23 [(3, [(0, .slice), (1, .any), (5, (.int .i64)), (6, (.int .i64))])] (Go.Proofs.Try.f23.body.getD .skip) [.slice keys_1p keys_1l keys_1c, key_2] k = F23 k keys_1p keys_1l keys_1c key_2 := by kernel_rfl
theorem F23_calls {keys_1p : Option Addr} {keys_1l : Nat} {keys_1c : Nat} {key_2 : Value} {w : World} {R : Ending → World → Prop} (h : F23 (fun v w => R (.returned v) w) keys_1p keys_1l keys_1c key_2 w) : Calls Go.Proofs.Try.prog 23 #[.slice keys_1p keys_1l keys_1c, key_2] w R :=
  calls_of_compF noNum follows [(3, [(0, .slice), (1, .any), (5, (.int .i64)), (6, (.int .i64))])] (f := 23) (fn := Go.Proofs.Try.f23) (body := Go.Proofs.Try.f23.body.getD .skip) (args := [.slice keys_1p keys_1l keys_1c, key_2]) rfl rfl (Nat.le_of_ble_eq_true rfl) ((congrFun (F23_eq _ keys_1p keys_1l keys_1c key_2) w).mpr h)
theorem F23_call {keys_1p : Option Addr} {keys_1l : Nat} {keys_1c : Nat} {key_2 : Value} {w : World} {g : Fn W (RTy.leaves (.s (.one (.int .i64))))} (h : F23 (fun v => Back (.s (.one (.int .i64))) g (.returned v)) keys_1p keys_1l keys_1c key_2 w) : CallT Go.Proofs.Try.prog 23 [.slice keys_1p keys_1l keys_1c, key_2] (.s (.one (.int .i64))) g w := F23_calls h

/-! ## plus.keys).insertAt -/
def F24 (k : Value → W) (keys_1 : Option Addr) (i_2 : Int) (key_3 : Value) : W :=
 NN keys_1 fun a4 =>
 LoadT .slice a4 fun s5p s5l s5c =>
 BIf (i_2 == ((s5l : Nat) : Int)) (
  NN keys_1 fun a6 =>
  LoadT .slice a6 fun s7p s7l s7c =>
  RawT Go.Proofs.Try.prog (Instr.buildSlice 76 1 [(0, key_3)].toArray) (.s (.one .slice)) fun s8p s8l s8c =>
  NextT Go.Proofs.Try.prog (builtin .append #[76, 76] 76 [false, false].toArray [.slice s7p s7l s7c, .slice s8p s8l s8c].toArray) (.s (.one .slice)) fun s9p s9l s9c =>
  NN keys_1 fun a10 =>
  Store1 a10 (.slice s9p s9l s9c) <|
  k (.tuple #[])) (
  NN keys_1 fun a11 =>
  LoadT .slice a11 fun s12p s12l s12c =>
  RawT Go.Proofs.Try.prog (Instr.buildSlice 76 1 [(0, .nilIface)].toArray) (.s (.one .slice)) fun s13p s13l s13c =>
  NextT Go.Proofs.Try.prog (builtin .append #[76, 76] 76 [false, false].toArray [.slice s12p s12l s12c, .slice s13p s13l s13c].toArray) (.s (.one .slice)) fun s14p s14l s14c =>
  NN keys_1 fun a15 =>
  Store1 a15 (.slice s14p s14l s14c) <|
  Drw <|
  NN keys_1 fun a16 =>
  LoadT .slice a16 fun s17p s17l s17c =>
  Req (0 ≤ addI .i64 i_2 1 ∧ addI .i64 i_2 1 ≤ ((s17l : Nat) : Int)) <|
  NN keys_1 fun a18 =>
  LoadT .slice a18 fun s19p s19l s19c =>
  Req (0 ≤ i_2 ∧ i_2 ≤ ((s19l : Nat) : Int)) <|
  NextT Go.Proofs.Try.prog (builtin .copy #[76, 76] 3 [false, false].toArray [.slice (sliceA s17p ((addI .i64 i_2 1).toNat) s17c 1) (s17l - ((addI .i64 i_2 1).toNat)) (s17c - ((addI .i64 i_2 1).toNat)), .slice (sliceA s19p i_2.toNat s19c 1) (s19l - i_2.toNat) (s19c - i_2.toNat)].toArray) (.s (.one (.int .i64))) fun x20 =>
  Chk1 a18 (.slice s19p s19l s19c) <|
  Chk1 a16 (.slice s17p s17l s17c) <|
  NN keys_1 fun a21 =>
  LoadT .slice a21 fun s22p s22l s22c =>
  NN s22p fun a23 =>
  Req (0 ≤ i_2 ∧ i_2 < ((s22l : Nat) : Int)) <|
  Req (oneC key_3 = true) <|
  Store1 (a23.add i_2.toNat) key_3 <|
  k (.tuple #[]))
theorem F24_eq (k : Value → W) (keys_1 : Option Addr) (i_2 : Int) (key_3 : Value) : compF Go.Proofs.Try.prog Go.Proofs.Try.f24 [] (Go.Proofs.Try.f24.body.getD .skip) [.pointer keys_1, .int .i64 i_2, key_3] k = F24 k keys_1 i_2 key_3 := by kernel_rfl
theorem F24_calls {keys_1 : Option Addr} {i_2 : Int} {key_3 : Value} {w : World} {R : Ending → World → Prop} (h : F24 (fun v w => R (.returned v) w) keys_1 i_2 key_3 w) : Calls Go.Proofs.Try.prog 24 #[.pointer keys_1, .int .i64 i_2, key_3] w R :=
  calls_of_compF noNum follows [] (f := 24) (fn := Go.Proofs.Try.f24) (body := Go.Proofs.Try.f24.body.getD .skip) (args := [.pointer keys_1, .int .i64 i_2, key_3]) rfl rfl (Nat.le_of_ble_eq_true rfl) ((congrFun (F24_eq _ keys_1 i_2 key_3) w).mpr h)
theorem F24_call {keys_1 : Option Addr} {i_2 : Int} {key_3 : Value} {w : World} {g : Fn W (RTy.leaves (.tup []))} (h : F24 (fun v => Back (.tup []) g (.returned v)) keys_1 i_2 key_3 w) : CallT Go.Proofs.Try.prog 24 [.pointer keys_1, .int .i64 i_2, key_3] (.tup []) g w := F24_calls h

/-! ## plus.lnode).insert -/
def F19_J1 (k : Value → W) (inserted_14 : Bool) : W :=
 BIf (!inserted_14) (
  k (.bool false)) (
  k (.bool true))
def F19 (k : Value → W) (lnode_1 : Option Addr) (tree_2 : Option Addr) (key_3 : Value) : W :=
 NN lnode_1 fun a4 =>
 LoadT .slice (a4.add 1) fun s5p s5l s5c =>
 CallT Go.Proofs.Try.prog 23 [.slice s5p s5l s5c, key_3] (.s (.one (.int .i64))) fun x6 =>
 NN lnode_1 fun a7 =>
 LoadT .slice (a7.add 1) fun s8p s8l s8c =>
 BIf (x6 == ((s8l : Nat) : Int)) (
  NN lnode_1 fun a9 =>
  LoadT .slice (a9.add 1) fun s10p s10l s10c =>
  RawT Go.Proofs.Try.prog (Instr.buildSlice 76 1 [(0, key_3)].toArray) (.s (.one .slice)) fun s11p s11l s11c =>
  NextT Go.Proofs.Try.prog (builtin .append #[76, 76] 76 [false, false].toArray [.slice s10p s10l s10c, .slice s11p s11l s11c].toArray) (.s (.one .slice)) fun s12p s12l s12c =>
  NN lnode_1 fun a13 =>
  Store1 (a13.add 1) (.slice s12p s12l s12c) <|
  F19_J1 k true) (
  NN lnode_1 fun a15 =>
  LoadT .slice (a15.add 1) fun s16p s16l s16c =>
  NN s16p fun a17 =>
  Req (0 ≤ x6 ∧ x6 < ((s16l : Nat) : Int)) <|
  LoadT .any (a17.add x6.toNat) fun v18 =>
  NextT Go.Proofs.Try.prog (callMethod v18 "Compare" [key_3].toArray) (.s (.one (.int .i64))) fun x19 =>
  BIf (x19 == 0) (
   NN lnode_1 fun a20 =>
   LoadT .slice (a20.add 1) fun s21p s21l s21c =>
   NN s21p fun a22 =>
   Req (0 ≤ x6 ∧ x6 < ((s21l : Nat) : Int)) <|
   Req (oneC key_3 = true) <|
   Store1 (a22.add x6.toNat) key_3 <|
   F19_J1 k false) (
   NN lnode_1 fun a23 =>
   CallT Go.Proofs.Try.prog 24 [.pointer (some (a23.add 1)), .int .i64 x6, key_3] (.tup []) <|
   F19_J1 k true))
theorem F19_eq (k : Value → W) (lnode_1 : Option Addr) (tree_2 : Option Addr) (key_3 : Value) : compF Go.Proofs.Try.prog Go.Proofs.Try.f19 [] (Go.Proofs.Try.f19.body.getD .skip) [.pointer lnode_1, .pointer tree_2, key_3] k = F19 k lnode_1 tree_2 key_3 := by kernel_rfl
theorem F19_calls {lnode_1 : Option Addr} {tree_2 : Option Addr} {key_3 : Value} {w : World} {R : Ending → World → Prop} (h : F19 (fun v w => R (.returned v) w) lnode_1 tree_2 key_3 w) : Calls Go.Proofs.Try.prog 19 #[.pointer lnode_1, .pointer tree_2, key_3] w R :=
  calls_of_compF noNum follows [] (f := 19) (fn := Go.Proofs.Try.f19) (body := Go.Proofs.Try.f19.body.getD .skip) (args := [.pointer lnode_1, .pointer tree_2, key_3]) rfl rfl (Nat.le_of_ble_eq_true rfl) ((congrFun (F19_eq _ lnode_1 tree_2 key_3) w).mpr h)
theorem F19_call {lnode_1 : Option Addr} {tree_2 : Option Addr} {key_3 : Value} {w : World} {g : Fn W (RTy.leaves (.s (.one .bool)))} (h : F19 (fun v => Back (.s (.one .bool)) g (.returned v)) lnode_1 tree_2 key_3 w) : CallT Go.Proofs.Try.prog 19 [.pointer lnode_1, .pointer tree_2, key_3] (.s (.one .bool)) g w := F19_calls h

/-! ## plus.newInternalNode -/
def F25 (k : Value → W) (size_1 : Int) : W :=
 Drw <|
 Both (
  RawT Go.Proofs.Try.prog (Instr.makeSlice 76 (.int .i64 0) (.int .u64 size_1)) (.s (.one .slice)) fun s2p s2l s2c =>
  RawT Go.Proofs.Try.prog (Instr.makeSlice 86 (.int .i64 0) (.int .u64 (addI .u64 size_1 1))) (.s (.one .slice)) fun s3p s3l s3c =>
  New [.slice s2p s2l s2c, .slice s3p s3l s3c] 88 fun n4 =>
  k (.pointer (some ⟨n4, 0, none⟩))) (
  RawT Go.Proofs.Try.prog (Instr.makeSlice 86 (.int .i64 0) (.int .u64 (addI .u64 size_1 1))) (.s (.one .slice)) fun s5p s5l s5c =>
  RawT Go.Proofs.Try.prog (Instr.makeSlice 76 (.int .i64 0) (.int .u64 size_1)) (.s (.one .slice)) fun s6p s6l s6c =>
  New [.slice s6p s6l s6c, .slice s5p s5l s5c] 88 fun n7 =>
  k (.pointer (some ⟨n7, 0, none⟩)))
theorem F25_eq (k : Value → W) (size_1 : Int) : compF Go.Proofs.Try.prog Go.Proofs.Try.f25 [] (Go.Proofs.Try.f25.body.getD .skip) [.int .u64 size_1] k = F25 k size_1 := by kernel_rfl
theorem F25_calls {size_1 : Int} {w : World} {R : Ending → World → Prop} (h : F25 (fun v w => R (.returned v) w) size_1 w) : Calls Go.Proofs.Try.prog 25 #[.int .u64 size_1] w R :=
  calls_of_compF noNum follows [] (f := 25) (fn := Go.Proofs.Try.f25) (body := Go.Proofs.Try.f25.body.getD .skip) (args := [.int .u64 size_1]) rfl rfl (Nat.le_of_ble_eq_true rfl) ((congrFun (F25_eq _ size_1) w).mpr h)
theorem F25_call {size_1 : Int} {w : World} {g : Fn W (RTy.leaves (.s (.one .ptr)))} (h : F25 (fun v => Back (.s (.one .ptr)) g (.returned v)) size_1 w) : CallT Go.Proofs.Try.prog 25 [.int .u64 size_1] (.s (.one .ptr)) g w := F25_calls h

/-! ## plus.keys).search -/
def F28 (k : Value → W) (keys_1p : Option Addr) (keys_1l : Nat) (keys_1c : Nat) (key_2 : Value) : W :=
 CallT Go.Proofs.Try.prog 23 [.slice keys_1p keys_1l keys_1c, key_2] (.s (.one (.int .i64))) fun x3 =>
 k (.int .i64 x3)
theorem F28_eq (k : Value → W) (keys_1p : Option Addr) (keys_1l : Nat) (keys_1c : Nat) (key_2 : Value) : compF Go.Proofs.Try.prog Go.Proofs.Try.f28 [] (Go.Proofs.Try.f28.body.getD .skip) [.slice keys_1p keys_1l keys_1c, key_2] k = F28 k keys_1p keys_1l keys_1c key_2 := by kernel_rfl
theorem F28_calls {keys_1p : Option Addr} {keys_1l : Nat} {keys_1c : Nat} {key_2 : Value} {w : World} {R : Ending → World → Prop} (h : F28 (fun v w => R (.returned v) w) keys_1p keys_1l keys_1c key_2 w) : Calls Go.Proofs.Try.prog 28 #[.slice keys_1p keys_1l keys_1c, key_2] w R :=
  calls_of_compF noNum follows [] (f := 28) (fn := Go.Proofs.Try.f28) (body := Go.Proofs.Try.f28.body.getD .skip) (args := [.slice keys_1p keys_1l keys_1c, key_2]) rfl rfl (Nat.le_of_ble_eq_true rfl) ((congrFun (F28_eq _ keys_1p keys_1l keys_1c key_2) w).mpr h)
theorem F28_call {keys_1p : Option Addr} {keys_1l : Nat} {keys_1c : Nat} {key_2 : Value} {w : World} {g : Fn W (RTy.leaves (.s (.one (.int .i64))))} (h : F28 (fun v => Back (.s (.one (.int .i64))) g (.returned v)) keys_1p keys_1l keys_1c key_2 w) : CallT Go.Proofs.Try.prog 28 [.slice keys_1p keys_1l keys_1c, key_2] (.s (.one (.int .i64))) g w := F28_calls h

/-! ## plus.inode).search -/
def F26 (k : Value → W) (node_1 : Option Addr) (key_2 : Value) : W :=
 NN node_1 fun a3 =>
 LoadT .slice a3 fun s4p s4l s4c =>
 CallT Go.Proofs.Try.prog 28 [.slice s4p s4l s4c, key_2] (.s (.one (.int .i64))) fun x5 =>
 k (.int .i64 x5)
theorem F26_eq (k : Value → W) (node_1 : Option Addr) (key_2 : Value) : compF Go.Proofs.Try.prog Go.Proofs.Try.f26 [] (Go.Proofs.Try.f26.body.getD .skip) [.pointer node_1, key_2] k = F26 k node_1 key_2 := by kernel_rfl
theorem F26_calls {node_1 : Option Addr} {key_2 : Value} {w : World} {R : Ending → World → Prop} (h : F26 (fun v w => R (.returned v) w) node_1 key_2 w) : Calls Go.Proofs.Try.prog 26 #[.pointer node_1, key_2] w R :=
  calls_of_compF noNum follows [] (f := 26) (fn := Go.Proofs.Try.f26) (body := Go.Proofs.Try.f26.body.getD .skip) (args := [.pointer node_1, key_2]) rfl rfl (Nat.le_of_ble_eq_true rfl) ((congrFun (F26_eq _ node_1 key_2) w).mpr h)
theorem F26_call {node_1 : Option Addr} {key_2 : Value} {w : World} {g : Fn W (RTy.leaves (.s (.one (.int .i64))))} (h : F26 (fun v => Back (.s (.one (.int .i64))) g (.returned v)) node_1 key_2 w) : CallT Go.Proofs.Try.prog 26 [.pointer node_1, key_2] (.s (.one (.int .i64))) g w := F26_calls h

/-! ## plus.nodes).insertAt -/
def F27 (k : Value → W) (nodes_1 : Option Addr) (i_2 : Int) (node_3 : Value) : W :=
 NN nodes_1 fun a4 =>
 LoadT .slice a4 fun s5p s5l s5c =>
 BIf (i_2 == ((s5l : Nat) : Int)) (
  NN nodes_1 fun a6 =>
  LoadT .slice a6 fun s7p s7l s7c =>
  RawT Go.Proofs.Try.prog (Instr.buildSlice 86 1 [(0, node_3)].toArray) (.s (.one .slice)) fun s8p s8l s8c =>
  NextT Go.Proofs.Try.prog (builtin .append #[86, 86] 86 [false, false].toArray [.slice s7p s7l s7c, .slice s8p s8l s8c].toArray) (.s (.one .slice)) fun s9p s9l s9c =>
  NN nodes_1 fun a10 =>
  Store1 a10 (.slice s9p s9l s9c) <|
  k (.tuple #[])) (
  NN nodes_1 fun a11 =>
  LoadT .slice a11 fun s12p s12l s12c =>
  RawT Go.Proofs.Try.prog (Instr.buildSlice 86 1 [(0, .nilIface)].toArray) (.s (.one .slice)) fun s13p s13l s13c =>
  NextT Go.Proofs.Try.prog (builtin .append #[86, 86] 86 [false, false].toArray [.slice s12p s12l s12c, .slice s13p s13l s13c].toArray) (.s (.one .slice)) fun s14p s14l s14c =>
  NN nodes_1 fun a15 =>
  Store1 a15 (.slice s14p s14l s14c) <|
  Drw <|
  NN nodes_1 fun a16 =>
  LoadT .slice a16 fun s17p s17l s17c =>
  Req (0 ≤ addI .i64 i_2 1 ∧ addI .i64 i_2 1 ≤ ((s17l : Nat) : Int)) <|
  NN nodes_1 fun a18 =>
  LoadT .slice a18 fun s19p s19l s19c =>
  Req (0 ≤ i_2 ∧ i_2 ≤ ((s19l : Nat) : Int)) <|
  NextT Go.Proofs.Try.prog (builtin .copy #[86, 86] 3 [false, false].toArray [.slice (sliceA s17p ((addI .i64 i_2 1).toNat) s17c 1) (s17l - ((addI .i64 i_2 1).toNat)) (s17c - ((addI .i64 i_2 1).toNat)), .slice (sliceA s19p i_2.toNat s19c 1) (s19l - i_2.toNat) (s19c - i_2.toNat)].toArray) (.s (.one (.int .i64))) fun x20 =>
  Chk1 a18 (.slice s19p s19l s19c) <|
  Chk1 a16 (.slice s17p s17l s17c) <|
  NN nodes_1 fun a21 =>
  LoadT .slice a21 fun s22p s22l s22c =>
  NN s22p fun a23 =>
  Req (0 ≤ i_2 ∧ i_2 < ((s22l : Nat) : Int)) <|
  Req (oneC node_3 = true) <|
  Store1 (a23.add i_2.toNat) node_3 <|
  k (.tuple #[]))
theorem F27_eq (k : Value → W) (nodes_1 : Option Addr) (i_2 : Int) (node_3 : Value) : compF Go.Proofs.Try.prog Go.Proofs.Try.f27 [] (Go.Proofs.Try.f27.body.getD .skip) [.pointer nodes_1, .int .i64 i_2, node_3] k = F27 k nodes_1 i_2 node_3 := by kernel_rfl
theorem F27_calls {nodes_1 : Option Addr} {i_2 : Int} {node_3 : Value} {w : World} {R : Ending → World → Prop} (h : F27 (fun v w => R (.returned v) w) nodes_1 i_2 node_3 w) : Calls Go.Proofs.Try.prog 27 #[.pointer nodes_1, .int .i64 i_2, node_3] w R :=
  calls_of_compF noNum follows [] (f := 27) (fn := Go.Proofs.Try.f27) (body := Go.Proofs.Try.f27.body.getD .skip) (args := [.pointer nodes_1, .int .i64 i_2, node_3]) rfl rfl (Nat.le_of_ble_eq_true rfl) ((congrFun (F27_eq _ nodes_1 i_2 node_3) w).mpr h)
theorem F27_call {nodes_1 : Option Addr} {i_2 : Int} {node_3 : Value} {w : World} {g : Fn W (RTy.leaves (.tup []))} (h : F27 (fun v => Back (.tup []) g (.returned v)) nodes_1 i_2 node_3 w) : CallT Go.Proofs.Try.prog 27 [.pointer nodes_1, .int .i64 i_2, node_3] (.tup []) g w := F27_calls h

/-! ## plus.split -/
def F20_J1 (k : Value → W) (parent_39 : Value) (key_40 : Value) (left_41 : Value) (right_42 : Value) (p_43 : Option Addr) (i_44 : Int) : W :=
 NN p_43 fun a45 =>
 CallT Go.Proofs.Try.prog 24 [.pointer (some a45), .int .i64 i_44, key_40] (.tup []) <|
 NN p_43 fun a46 =>
 LoadT .slice (a46.add 1) fun s47p s47l s47c =>
 NN s47p fun a48 =>
 Req (0 ≤ i_44 ∧ i_44 < ((s47l : Nat) : Int)) <|
 Req (oneC left_41 = true) <|
 Store1 (a48.add i_44.toNat) left_41 <|
 NN p_43 fun a49 =>
 CallT Go.Proofs.Try.prog 27 [.pointer (some (a49.add 1)), .int .i64 (addI .i64 i_44 1), right_42] (.tup []) <|
 k parent_39
def F20 (k : Value → W) (tree_1 : Option Addr) (parent_2 : Value) (child_3 : Value) : W :=
 Drw <|
 NN tree_1 fun a4 =>
 LoadT (.int .u64) (a4.add 1) fun x5 =>
 MethOk Go.Proofs.Try.prog (.func (.method "given.example/pub-spokeshave/pub/godatastructures/btree/plus.needsSplit") #[child_3] #[]) <|
 NextT Go.Proofs.Try.prog (callMethod child_3 "given.example/pub-spokeshave/pub/godatastructures/btree/plus.needsSplit" [.int .u64 x5].toArray) (.s (.one .bool)) fun b6 =>
 BIf (!b6) (
  k parent_2) (
  NextT Go.Proofs.Try.prog (callMethod child_3 "given.example/pub-spokeshave/pub/godatastructures/btree/plus.split" [].toArray) (.tup [(.one .any), (.one .any), (.one .any)]) fun v7 v8 v9 =>
  IfaceNil parent_2 fun b10 =>
  BIf b10 (
   NN tree_1 fun a11 =>
   LoadT (.int .u64) (a11.add 1) fun x12 =>
   CallT Go.Proofs.Try.prog 25 [.int .u64 x12] (.s (.one .ptr)) fun p13 =>
   NN p13 fun a14 =>
   LoadT .slice a14 fun s15p s15l s15c =>
   RawT Go.Proofs.Try.prog (Instr.buildSlice 76 1 [(0, v7)].toArray) (.s (.one .slice)) fun s16p s16l s16c =>
   NextT Go.Proofs.Try.prog (builtin .append #[76, 76] 76 [false, false].toArray [.slice s15p s15l s15c, .slice s16p s16l s16c].toArray) (.s (.one .slice)) fun s17p s17l s17c =>
   NN p13 fun a18 =>
   Store1 a18 (.slice s17p s17l s17c) <|
   NN p13 fun a19 =>
   LoadT .slice (a19.add 1) fun s20p s20l s20c =>
   RawT Go.Proofs.Try.prog (Instr.buildSlice 86 1 [(0, v8)].toArray) (.s (.one .slice)) fun s21p s21l s21c =>
   NextT Go.Proofs.Try.prog (builtin .append #[86, 86] 86 [false, false].toArray [.slice s20p s20l s20c, .slice s21p s21l s21c].toArray) (.s (.one .slice)) fun s22p s22l s22c =>
   NN p13 fun a23 =>
   Store1 (a23.add 1) (.slice s22p s22l s22c) <|
   NN p13 fun a24 =>
   LoadT .slice (a24.add 1) fun s25p s25l s25c =>
   RawT Go.Proofs.Try.prog (Instr.buildSlice 86 1 [(0, v9)].toArray) (.s (.one .slice)) fun s26p s26l s26c =>
   NextT Go.Proofs.Try.prog (builtin .append #[86, 86] 86 [false, false].toArray [.slice s25p s25l s25c, .slice s26p s26l s26c].toArray) (.s (.one .slice)) fun s27p s27l s27c =>
   NN p13 fun a28 =>
   Store1 (a28.add 1) (.slice s27p s27l s27c) <|
   k (.iface 83 (.pointer p13))) (
   TAs parent_2 83 (.s (.one .ptr)) fun p29 =>
   CallT Go.Proofs.Try.prog 26 [.pointer p29, v7] (.s (.one (.int .i64))) fun x30 =>
   RawS Go.Proofs.Try.prog (Instr.typeAssert v8 62 68 true) (.tup [(.one .ptr), (.one .bool)]) fun p31 b32 =>
   BIf b32 (
    BIf (decide (x30 > 0)) (
     NN p29 fun a33 =>
     LoadT .slice (a33.add 1) fun s34p s34l s34c =>
     NN s34p fun a35 =>
     Req (0 ≤ subI .i64 x30 1 ∧ subI .i64 x30 1 < ((s34l : Nat) : Int)) <|
     LoadT .any (a35.add ((subI .i64 x30 1).toNat)) fun v36 =>
     TAs v36 68 (.s (.one .ptr)) fun p37 =>
     NN p37 fun a38 =>
     Store1 a38 (.pointer p31) <|
     F20_J1 k parent_2 v7 v8 v9 p29 x30) (
     F20_J1 k parent_2 v7 v8 v9 p29 x30)) (
    F20_J1 k parent_2 v7 v8 v9 p29 x30)))
theorem F20_eq (k : Value → W) (tree_1 : Option Addr) (parent_2 : Value) (child_3 : Value) : compF Go.Proofs.Try.prog Go.Proofs.Try.f20 [] (Go.Proofs.Try.f20.body.getD .skip) [.pointer tree_1, parent_2, child_3] k = F20 k tree_1 parent_2 child_3 := by kernel_rfl
theorem F20_calls {tree_1 : Option Addr} {parent_2 : Value} {child_3 : Value} {w : World} {R : Ending → World → Prop} (h : F20 (fun v w => R (.returned v) w) tree_1 parent_2 child_3 w) : Calls Go.Proofs.Try.prog 20 #[.pointer tree_1, parent_2, child_3] w R :=
  calls_of_compF noNum follows [] (f := 20) (fn := Go.Proofs.Try.f20) (body := Go.Proofs.Try.f20.body.getD .skip) (args := [.pointer tree_1, parent_2, child_3]) rfl rfl (Nat.le_of_ble_eq_true rfl) ((congrFun (F20_eq _ tree_1 parent_2 child_3) w).mpr h)
theorem F20_call {tree_1 : Option Addr} {parent_2 : Value} {child_3 : Value} {w : World} {g : Fn W (RTy.leaves (.s (.one .any)))} (h : F20 (fun v => Back (.s (.one .any)) g (.returned v)) tree_1 parent_2 child_3 w) : CallT Go.Proofs.Try.prog 20 [.pointer tree_1, parent_2, child_3] (.s (.one .any)) g w := F20_calls h

/-! ## plus.btree).insert -/
def F15_J1 (k : Value → W) (tree_16 : Option Addr) : W :=
 Drw <|
 NN tree_16 fun a17 =>
 LoadT .any a17 fun v18 =>
 NN tree_16 fun a19 =>
 LoadT (.int .u64) (a19.add 1) fun x20 =>
 Req (nnv v18 = true) <|
 NextT Go.Proofs.Try.prog (callMethod v18 "given.example/pub-spokeshave/pub/godatastructures/btree/plus.needsSplit" [.int .u64 x20].toArray) (.s (.one .bool)) fun b21 =>
 Chk1 a17 v18 <|
 BIf b21 (
  NN tree_16 fun a22 =>
  LoadT .any a22 fun v23 =>
  CallT Go.Proofs.Try.prog 20 [.pointer tree_16, .nilIface, v23] (.s (.one .any)) fun v24 =>
  NN tree_16 fun a25 =>
  Req (oneC v24 = true) <|
  Store1 a25 v24 <|
  k (.tuple #[])) (
  k (.tuple #[]))
def F15 (k : Value → W) (tree_1 : Option Addr) (key_2 : Value) : W :=
 NN tree_1 fun a3 =>
 LoadT .any a3 fun v4 =>
 IfaceNil v4 fun b5 =>
 BIf b5 (
  NN tree_1 fun a6 =>
  LoadT (.int .u64) (a6.add 1) fun x7 =>
  CallT Go.Proofs.Try.prog 18 [.int .u64 x7] (.s (.one .ptr)) fun p8 =>
  CallT Go.Proofs.Try.prog 19 [.pointer p8, .pointer tree_1, key_2] (.s (.one .bool)) fun b9 =>
  NN tree_1 fun a10 =>
  Store1 (a10.add 2) (.int .u64 1) <|
  k (.tuple #[])) (
  NN tree_1 fun a11 =>
  LoadT .any a11 fun v12 =>
  NextT Go.Proofs.Try.prog (callMethod v12 "given.example/pub-spokeshave/pub/godatastructures/btree/plus.insert" [.pointer tree_1, key_2].toArray) (.s (.one .bool)) fun b13 =>
  BIf b13 (
   NN tree_1 fun a14 =>
   LoadT (.int .u64) (a14.add 2) fun x15 =>
   Store1 (a14.add 2) (.int .u64 (addI .u64 x15 1)) <|
   F15_J1 k tree_1) (
   F15_J1 k tree_1))
theorem F15_eq (k : Value → W) (tree_1 : Option Addr) (key_2 : Value) : compF Go.Proofs.Try.prog Go.Proofs.Try.f15 [] (Go.Proofs.Try.f15.body.getD .skip) [.pointer tree_1, key_2] k = F15 k tree_1 key_2 := by kernel_rfl
theorem F15_calls {tree_1 : Option Addr} {key_2 : Value} {w : World} {R : Ending → World → Prop} (h : F15 (fun v w => R (.returned v) w) tree_1 key_2 w) : Calls Go.Proofs.Try.prog 15 #[.pointer tree_1, key_2] w R :=
  calls_of_compF noNum follows [] (f := 15) (fn := Go.Proofs.Try.f15) (body := Go.Proofs.Try.f15.body.getD .skip) (args := [.pointer tree_1, key_2]) rfl rfl (Nat.le_of_ble_eq_true rfl) ((congrFun (F15_eq _ tree_1 key_2) w).mpr h)
theorem F15_call {tree_1 : Option Addr} {key_2 : Value} {w : World} {g : Fn W (RTy.leaves (.tup []))} (h : F15 (fun v => Back (.tup []) g (.returned v)) tree_1 key_2 w) : CallT Go.Proofs.Try.prog 15 [.pointer tree_1, key_2] (.tup []) g w := F15_calls h

/-! ## plus.btree).Insert -/
def F8_L1 (k : Value → W) (again7 : Option Addr → Option Addr → Nat → Nat → Int → Int → W) (tree_3 : Option Addr) (s4p : Option Addr) (s4l : Nat) (s4c : Nat) (x5 : Int) (x6 : Int) : W :=
 BIf (decide (x6 < x5)) (
  NN s4p fun a8 =>
  Req (0 ≤ x6 ∧ x6 < ((s4l : Nat) : Int)) <|
  LoadT .any (a8.add x6.toNat) fun v9 =>
  CallT Go.Proofs.Try.prog 15 [.pointer tree_3, v9] (.tup []) <|
  again7 tree_3 s4p s4l s4c x5 (addI .i64 x6 1)) (
  k (.tuple #[]))
theorem F8_L1_rule {k : Value → W} (I : Option Addr → Option Addr → Nat → Nat → Int → Int → W) (μ : Option Addr → Option Addr → Nat → Nat → Int → Int → World → Nat)
  (hr : ∀ (tree_3 : Option Addr) (s4p : Option Addr) (s4l : Nat) (s4c : Nat) (x5 : Int) (x6 : Int) (w : World), I tree_3 s4p s4l s4c x5 x6 w → F8_L1 k (fun tree_3' s4p' s4l' s4c' x5' x6' w' => I tree_3' s4p' s4l' s4c' x5' x6' w' ∧ μ tree_3' s4p' s4l' s4c' x5' x6' w' < μ tree_3 s4p s4l s4c x5 x6 w) tree_3 s4p s4l s4c x5 x6 w)
  {w : World} {tree_3 : Option Addr} {s4p : Option Addr} {s4l : Nat} {s4c : Nat} {x5 : Int} {x6 : Int} (h : I tree_3 s4p s4l s4c x5 x6 w) : Loop [.ptr, .slice, (.int .i64), (.int .i64)] (F8_L1 k) tree_3 s4p s4l s4c x5 x6 w :=
  Loop_intro (ts := [.ptr, .slice, (.int .i64), (.int .i64)]) (s := (tree_3, (s4p, s4l, s4c), x5, x6, ())) (fun s w => I s.1 s.2.1.1 s.2.1.2.1 s.2.1.2.2 s.2.2.1 s.2.2.2.1 w) (fun s w => μ s.1 s.2.1.1 s.2.1.2.1 s.2.1.2.2 s.2.2.1 s.2.2.2.1 w) h (fun s w h => hr s.1 s.2.1.1 s.2.1.2.1 s.2.1.2.2 s.2.2.1 s.2.2.2.1 w h)
def F8 (k : Value → W) (tree_1 : Option Addr) (keys_2p : Option Addr) (keys_2l : Nat) (keys_2c : Nat) : W :=
 Loop [.ptr, .slice, (.int .i64), (.int .i64)] (F8_L1 k) tree_1 keys_2p keys_2l keys_2c ((keys_2l : Nat) : Int) 0
theorem F8_eq (k : Value → W) (tree_1 : Option Addr) (keys_2p : Option Addr) (keys_2l : Nat) (keys_2c : Nat) : compF Go.Proofs.Try.prog Go.Proofs.Try.f8 [(1, [(0, .ptr), (6, .slice), (7, (.int .i64)), (8, (.int .i64))])] (Go.Proofs.Try.f8.body.getD .skip) [.pointer tree_1, .slice keys_2p keys_2l keys_2c] k = F8 k tree_1 keys_2p keys_2l keys_2c := by kernel_rfl
theorem F8_calls {tree_1 : Option Addr} {keys_2p : Option Addr} {keys_2l : Nat} {keys_2c : Nat} {w : World} {R : Ending → World → Prop} (h : F8 (fun v w => R (.returned v) w) tree_1 keys_2p keys_2l keys_2c w) : Calls Go.Proofs.Try.prog 8 #[.pointer tree_1, .slice keys_2p keys_2l keys_2c] w R :=
  calls_of_compF noNum follows [(1, [(0, .ptr), (6, .slice), (7, (.int .i64)), (8, (.int .i64))])] (f := 8) (fn := Go.Proofs.Try.f8) (body := Go.Proofs.Try.f8.body.getD .skip) (args := [.pointer tree_1, .slice keys_2p keys_2l keys_2c]) rfl rfl (Nat.le_of_ble_eq_true rfl) ((congrFun (F8_eq _ tree_1 keys_2p keys_2l keys_2c) w).mpr h)
theorem F8_call {tree_1 : Option Addr} {keys_2p : Option Addr} {keys_2l : Nat} {keys_2c : Nat} {w : World} {g : Fn W (RTy.leaves (.tup []))} (h : F8 (fun v => Back (.tup []) g (.returned v)) tree_1 keys_2p keys_2l keys_2c w) : CallT Go.Proofs.Try.prog 8 [.pointer tree_1, .slice keys_2p keys_2l keys_2c] (.tup []) g w := F8_calls h

/-! ## plus.iterator).Next -/
def F21 (k : Value → W) (iter_1 : Option Addr) : W :=
 NN iter_1 fun a2 =>
 LoadT (.int .i64) (a2.add 1) fun x3 =>
 BIf (x3 == (-2)) (
  k (.bool false)) (
  NN iter_1 fun a4 =>
  LoadT (.int .i64) (a4.add 1) fun x5 =>
  Store1 (a4.add 1) (.int .i64 (addI .i64 x5 1)) <|
  Drw <|
  NN iter_1 fun a6 =>
  LoadT (.int .i64) (a6.add 1) fun x7 =>
  NN iter_1 fun a8 =>
  LoadT .ptr a8 fun p9 =>
  NN p9 fun a10 =>
  LoadT .slice (a10.add 1) fun s11p s11l s11c =>
  BIf (decide (x7 ≥ ((s11l : Nat) : Int))) (
   NN iter_1 fun a12 =>
   LoadT .ptr a12 fun p13 =>
   NN p13 fun a14 =>
   LoadT .ptr a14 fun p15 =>
   NN iter_1 fun a16 =>
   Store1 a16 (.pointer p15) <|
   NN iter_1 fun a17 =>
   LoadT .ptr a17 fun p18 =>
   BIf p18.isNone (
    NN iter_1 fun a19 =>
    Store1 (a19.add 1) (.int .i64 (-2)) <|
    k (.bool false)) (
    NN iter_1 fun a20 =>
    Store1 (a20.add 1) (.int .i64 0) <|
    k (.bool true))) (
   k (.bool true)))
theorem F21_eq (k : Value → W) (iter_1 : Option Addr) : compF Go.Proofs.Try.prog Go.Proofs.Try.f21 [] (Go.Proofs.Try.f21.body.getD .skip) [.pointer iter_1] k = F21 k iter_1 := by kernel_rfl
theorem F21_calls {iter_1 : Option Addr} {w : World} {R : Ending → World → Prop} (h : F21 (fun v w => R (.returned v) w) iter_1 w) : Calls Go.Proofs.Try.prog 21 #[.pointer iter_1] w R :=
  calls_of_compF noNum follows [] (f := 21) (fn := Go.Proofs.Try.f21) (body := Go.Proofs.Try.f21.body.getD .skip) (args := [.pointer iter_1]) rfl rfl (Nat.le_of_ble_eq_true rfl) ((congrFun (F21_eq _ iter_1) w).mpr h)
theorem F21_call {iter_1 : Option Addr} {w : World} {g : Fn W (RTy.leaves (.s (.one .bool)))} (h : F21 (fun v => Back (.s (.one .bool)) g (.returned v)) iter_1 w) : CallT Go.Proofs.Try.prog 21 [.pointer iter_1] (.s (.one .bool)) g w := F21_calls h

/-! ## plus.iterator).Value -/
def F22 (k : Value → W) (iter_1 : Option Addr) : W :=
 Drw <|
 NN iter_1 fun a2 =>
 LoadT (.int .i64) (a2.add 1) fun x3 =>
 BIf (x3 == (-2)) (
  k .nilIface) (
  NN iter_1 fun a4 =>
  LoadT (.int .i64) (a4.add 1) fun x5 =>
  BIf (decide (x5 < 0)) (
   k .nilIface) (
   NN iter_1 fun a6 =>
   LoadT (.int .i64) (a6.add 1) fun x7 =>
   NN iter_1 fun a8 =>
   LoadT .ptr a8 fun p9 =>
   NN p9 fun a10 =>
   LoadT .slice (a10.add 1) fun s11p s11l s11c =>
   BIf (decide (x7 ≥ ((s11l : Nat) : Int))) (
    k .nilIface) (
    Drw <|
    NN iter_1 fun a12 =>
    LoadT .ptr a12 fun p13 =>
    NN p13 fun a14 =>
    LoadT .slice (a14.add 1) fun s15p s15l s15c =>
    NN iter_1 fun a16 =>
    LoadT (.int .i64) (a16.add 1) fun x17 =>
    NN s15p fun a18 =>
    Req (0 ≤ x17 ∧ x17 < ((s15l : Nat) : Int)) <|
    LoadT .any (a18.add x17.toNat) fun v19 =>
    k v19)))
theorem F22_eq (k : Value → W) (iter_1 : Option Addr) : compF Go.Proofs.Try.prog Go.Proofs.Try.f22 [] (Go.Proofs.Try.f22.body.getD .skip) [.pointer iter_1] k = F22 k iter_1 := by kernel_rfl
theorem F22_calls {iter_1 : Option Addr} {w : World} {R : Ending → World → Prop} (h : F22 (fun v w => R (.returned v) w) iter_1 w) : Calls Go.Proofs.Try.prog 22 #[.pointer iter_1] w R :=
  calls_of_compF noNum follows [] (f := 22) (fn := Go.Proofs.Try.f22) (body := Go.Proofs.Try.f22.body.getD .skip) (args := [.pointer iter_1]) rfl rfl (Nat.le_of_ble_eq_true rfl) ((congrFun (F22_eq _ iter_1) w).mpr h)
theorem F22_call {iter_1 : Option Addr} {w : World} {g : Fn W (RTy.leaves (.s (.one .any)))} (h : F22 (fun v => Back (.s (.one .any)) g (.returned v)) iter_1 w) : CallT Go.Proofs.Try.prog 22 [.pointer iter_1] (.s (.one .any)) g w := F22_calls h

/-! ## plus.btree).get -/
def F16 (k : Value → W) (tree_1 : Option Addr) (key_2 : Value) : W :=
 NN tree_1 fun a3 =>
 LoadT .any a3 fun v4 =>
 NextT Go.Proofs.Try.prog (callMethod v4 "given.example/pub-spokeshave/pub/godatastructures/btree/plus.find" [key_2].toArray) (.s (.one .ptr)) fun p5 =>
 CallT Go.Proofs.Try.prog 21 [.pointer p5] (.s (.one .bool)) fun b6 =>
 BIf (!b6) (
  k .nilIface) (
  CallT Go.Proofs.Try.prog 22 [.pointer p5] (.s (.one .any)) fun v7 =>
  NextT Go.Proofs.Try.prog (callMethod v7 "Compare" [key_2].toArray) (.s (.one (.int .i64))) fun x8 =>
  BIf (x8 == 0) (
   CallT Go.Proofs.Try.prog 22 [.pointer p5] (.s (.one .any)) fun v9 =>
   k v9) (
   k .nilIface))
theorem F16_eq (k : Value → W) (tree_1 : Option Addr) (key_2 : Value) : compF Go.Proofs.Try.prog Go.Proofs.Try.f16 [] (Go.Proofs.Try.f16.body.getD .skip) [.pointer tree_1, key_2] k = F16 k tree_1 key_2 := by kernel_rfl
theorem F16_calls {tree_1 : Option Addr} {key_2 : Value} {w : World} {R : Ending → World → Prop} (h : F16 (fun v w => R (.returned v) w) tree_1 key_2 w) : Calls Go.Proofs.Try.prog 16 #[.pointer tree_1, key_2] w R :=
  calls_of_compF noNum follows [] (f := 16) (fn := Go.Proofs.Try.f16) (body := Go.Proofs.Try.f16.body.getD .skip) (args := [.pointer tree_1, key_2]) rfl rfl (Nat.le_of_ble_eq_true rfl) ((congrFun (F16_eq _ tree_1 key_2) w).mpr h)
theorem F16_call {tree_1 : Option Addr} {key_2 : Value} {w : World} {g : Fn W (RTy.leaves (.s (.one .any)))} (h : F16 (fun v => Back (.s (.one .any)) g (.returned v)) tree_1 key_2 w) : CallT Go.Proofs.Try.prog 16 [.pointer tree_1, key_2] (.s (.one .any)) g w := F16_calls h

/-! ## plus.btree).Get -/
def F10_L1 (k : Value → W) (again9 : Option Addr → Option Addr → Nat → Nat → Option Addr → Nat → Nat → Int → Int → W) (tree_4 : Option Addr) (results_5p : Option Addr) (results_5l : Nat) (results_5c : Nat) (s6p : Option Addr) (s6l : Nat) (s6c : Nat) (x7 : Int) (x8 : Int) : W :=
 BIf (decide (x8 < x7)) (
  NN s6p fun a10 =>
  Req (0 ≤ x8 ∧ x8 < ((s6l : Nat) : Int)) <|
  LoadT .any (a10.add x8.toNat) fun v11 =>
  CallT Go.Proofs.Try.prog 16 [.pointer tree_4, v11] (.s (.one .any)) fun v12 =>
  RawT Go.Proofs.Try.prog (Instr.buildSlice 45 1 [(0, v12)].toArray) (.s (.one .slice)) fun s13p s13l s13c =>
  NextT Go.Proofs.Try.prog (builtin .append #[45, 45] 45 [false, false].toArray [.slice results_5p results_5l results_5c, .slice s13p s13l s13c].toArray) (.s (.one .slice)) fun s14p s14l s14c =>
  again9 tree_4 s14p s14l s14c s6p s6l s6c x7 (addI .i64 x8 1)) (
  k (.slice results_5p results_5l results_5c))
theorem F10_L1_rule {k : Value → W} (I : Option Addr → Option Addr → Nat → Nat → Option Addr → Nat → Nat → Int → Int → W) (μ : Option Addr → Option Addr → Nat → Nat → Option Addr → Nat → Nat → Int → Int → World → Nat)
  (hr : ∀ (tree_4 : Option Addr) (results_5p : Option Addr) (results_5l : Nat) (results_5c : Nat) (s6p : Option Addr) (s6l : Nat) (s6c : Nat) (x7 : Int) (x8 : Int) (w : World), I tree_4 results_5p results_5l results_5c s6p s6l s6c x7 x8 w → F10_L1 k (fun tree_4' results_5p' results_5l' results_5c' s6p' s6l' s6c' x7' x8' w' => I tree_4' results_5p' results_5l' results_5c' s6p' s6l' s6c' x7' x8' w' ∧ μ tree_4' results_5p' results_5l' results_5c' s6p' s6l' s6c' x7' x8' w' < μ tree_4 results_5p results_5l results_5c s6p s6l s6c x7 x8 w) tree_4 results_5p results_5l results_5c s6p s6l s6c x7 x8 w)
  {w : World} {tree_4 : Option Addr} {results_5p : Option Addr} {results_5l : Nat} {results_5c : Nat} {s6p : Option Addr} {s6l : Nat} {s6c : Nat} {x7 : Int} {x8 : Int} (h : I tree_4 results_5p results_5l results_5c s6p s6l s6c x7 x8 w) : Loop [.ptr, .slice, .slice, (.int .i64), (.int .i64)] (F10_L1 k) tree_4 results_5p results_5l results_5c s6p s6l s6c x7 x8 w :=
  Loop_intro (ts := [.ptr, .slice, .slice, (.int .i64), (.int .i64)]) (s := (tree_4, (results_5p, results_5l, results_5c), (s6p, s6l, s6c), x7, x8, ())) (fun s w => I s.1 s.2.1.1 s.2.1.2.1 s.2.1.2.2 s.2.2.1.1 s.2.2.1.2.1 s.2.2.1.2.2 s.2.2.2.1 s.2.2.2.2.1 w) (fun s w => μ s.1 s.2.1.1 s.2.1.2.1 s.2.1.2.2 s.2.2.1.1 s.2.2.1.2.1 s.2.2.1.2.2 s.2.2.2.1 s.2.2.2.2.1 w) h (fun s w h => hr s.1 s.2.1.1 s.2.1.2.1 s.2.1.2.2 s.2.2.1.1 s.2.2.1.2.1 s.2.2.1.2.2 s.2.2.2.1 s.2.2.2.2.1 w h)
def F10 (k : Value → W) (tree_1 : Option Addr) (keys_2p : Option Addr) (keys_2l : Nat) (keys_2c : Nat) : W :=
 RawT Go.Proofs.Try.prog (Instr.makeSlice 45 (.int .i64 0) (.int .i64 ((keys_2l : Nat) : Int))) (.s (.one .slice)) fun s3p s3l s3c =>
 Loop [.ptr, .slice, .slice, (.int .i64), (.int .i64)] (F10_L1 k) tree_1 s3p s3l s3c keys_2p keys_2l keys_2c ((keys_2l : Nat) : Int) 0
theorem F10_eq (k : Value → W) (tree_1 : Option Addr) (keys_2p : Option Addr) (keys_2l : Nat) (keys_2c : Nat) : compF Go.Proofs.Try.prog Go.Proofs.Try.f10 [(3, [(0, .ptr), (5, .slice), (11, .slice), (12, (.int .i64)), (13, (.int .i64))])] (Go.Proofs.Try.f10.body.getD .skip) [.pointer tree_1, .slice keys_2p keys_2l keys_2c] k = F10 k tree_1 keys_2p keys_2l keys_2c := by kernel_rfl
theorem F10_calls {tree_1 : Option Addr} {keys_2p : Option Addr} {keys_2l : Nat} {keys_2c : Nat} {w : World} {R : Ending → World → Prop} (h : F10 (fun v w => R (.returned v) w) tree_1 keys_2p keys_2l keys_2c w) : Calls Go.Proofs.Try.prog 10 #[.pointer tree_1, .slice keys_2p keys_2l keys_2c] w R :=
  calls_of_compF noNum follows [(3, [(0, .ptr), (5, .slice), (11, .slice), (12, (.int .i64)), (13, (.int .i64))])] (f := 10) (fn := Go.Proofs.Try.f10) (body := Go.Proofs.Try.f10.body.getD .skip) (args := [.pointer tree_1, .slice keys_2p keys_2l keys_2c]) rfl rfl (Nat.le_of_ble_eq_true rfl) ((congrFun (F10_eq _ tree_1 keys_2p keys_2l keys_2c) w).mpr h)
theorem F10_call {tree_1 : Option Addr} {keys_2p : Option Addr} {keys_2l : Nat} {keys_2c : Nat} {w : World} {g : Fn W (RTy.leaves (.s (.one .slice)))} (h : F10 (fun v => Back (.s (.one .slice)) g (.returned v)) tree_1 keys_2p keys_2l keys_2c w) : CallT Go.Proofs.Try.prog 10 [.pointer tree_1, .slice keys_2p keys_2l keys_2c] (.s (.one .slice)) g w := F10_calls h

/-! ## plus.nilIterator -/
def F17 (k : Value → W) : W :=
 New [.pointer none, .int .i64 (-2)] 75 fun n1 =>
 k (.pointer (some ⟨n1, 0, none⟩))
theorem F17_eq (k : Value → W) : compF Go.Proofs.Try.prog Go.Proofs.Try.f17 [] (Go.Proofs.Try.f17.body.getD .skip) [] k = F17 k  := by kernel_rfl
theorem F17_calls {w : World} {R : Ending → World → Prop} (h : F17 (fun v w => R (.returned v) w)  w) : Calls Go.Proofs.Try.prog 17 #[] w R :=
  calls_of_compF noNum follows [] (f := 17) (fn := Go.Proofs.Try.f17) (body := Go.Proofs.Try.f17.body.getD .skip) (args := []) rfl rfl (Nat.le_of_ble_eq_true rfl) ((congrFun (F17_eq _ ) w).mpr h)
theorem F17_call {w : World} {g : Fn W (RTy.leaves (.s (.one .ptr)))} (h : F17 (fun v => Back (.s (.one .ptr)) g (.returned v))  w) : CallT Go.Proofs.Try.prog 17 [] (.s (.one .ptr)) g w := F17_calls h

/-! ## plus.btree).Len -/
def F13 (k : Value → W) (tree_1 : Option Addr) : W :=
 NN tree_1 fun a2 =>
 LoadT (.int .u64) (a2.add 2) fun x3 =>
 k (.int .u64 x3)
theorem F13_eq (k : Value → W) (tree_1 : Option Addr) : compF Go.Proofs.Try.prog Go.Proofs.Try.f13 [] (Go.Proofs.Try.f13.body.getD .skip) [.pointer tree_1] k = F13 k tree_1 := by kernel_rfl
theorem F13_calls {tree_1 : Option Addr} {w : World} {R : Ending → World → Prop} (h : F13 (fun v w => R (.returned v) w) tree_1 w) : Calls Go.Proofs.Try.prog 13 #[.pointer tree_1] w R :=
  calls_of_compF noNum follows [] (f := 13) (fn := Go.Proofs.Try.f13) (body := Go.Proofs.Try.f13.body.getD .skip) (args := [.pointer tree_1]) rfl rfl (Nat.le_of_ble_eq_true rfl) ((congrFun (F13_eq _ tree_1) w).mpr h)
theorem F13_call {tree_1 : Option Addr} {w : World} {g : Fn W (RTy.leaves (.s (.one (.int .u64))))} (h : F13 (fun v => Back (.s (.one (.int .u64))) g (.returned v)) tree_1 w) : CallT Go.Proofs.Try.prog 13 [.pointer tree_1] (.s (.one (.int .u64))) g w := F13_calls h

/-! ## impl.word).Compare -/
def F44 (k : Value → W) (x1 : Int) (x2 : Int) (other_3 : Value) : W :=
 New [.int .i64 x1, .int .i64 x2] 54 fun n4 =>
 TAs other_3 54 (.s (.agg [(.int .i64), (.int .i64)])) fun x5 x6 =>
 LoadT (.int .i64) ⟨n4, 0, none⟩ fun x7 =>
 BIf (decide (x5 < x7)) (
  k (.int .i64 (-1))) (
  LoadT (.int .i64) ⟨n4, 0, none⟩ fun x8 =>
  BIf (decide (x5 > x8)) (
   k (.int .i64 1)) (
   k (.int .i64 0)))
theorem F44_eq (k : Value → W) (x1 : Int) (x2 : Int) (other_3 : Value) : compF Go.Proofs.Try.prog Go.Proofs.Try.f44 [] (Go.Proofs.Try.f44.body.getD .skip) [.agg #[.int .i64 x1, .int .i64 x2], other_3] k = F44 k x1 x2 other_3 := by kernel_rfl
theorem F44_calls {x1 : Int} {x2 : Int} {other_3 : Value} {w : World} {R : Ending → World → Prop} (h : F44 (fun v w => R (.returned v) w) x1 x2 other_3 w) : Calls Go.Proofs.Try.prog 44 #[.agg #[.int .i64 x1, .int .i64 x2], other_3] w R :=
  calls_of_compF noNum follows [] (f := 44) (fn := Go.Proofs.Try.f44) (body := Go.Proofs.Try.f44.body.getD .skip) (args := [.agg #[.int .i64 x1, .int .i64 x2], other_3]) rfl rfl (Nat.le_of_ble_eq_true rfl) ((congrFun (F44_eq _ x1 x2 other_3) w).mpr h)
theorem F44_call {x1 : Int} {x2 : Int} {other_3 : Value} {w : World} {g : Fn W (RTy.leaves (.s (.one (.int .i64))))} (h : F44 (fun v => Back (.s (.one (.int .i64))) g (.returned v)) x1 x2 other_3 w) : CallT Go.Proofs.Try.prog 44 [.agg #[.int .i64 x1, .int .i64 x2], other_3] (.s (.one (.int .i64))) g w := F44_calls h

/-! ## plus.lnode).find -/
def F46 (k : Value → W) (node_1 : Option Addr) (key_2 : Value) : W :=
 CallT Go.Proofs.Try.prog 48 [.pointer node_1, key_2] (.s (.one (.int .i64))) fun x3 =>
 NN node_1 fun a4 =>
 LoadT .slice (a4.add 1) fun s5p s5l s5c =>
 BIf (x3 == ((s5l : Nat) : Int)) (
  NN node_1 fun a6 =>
  LoadT .ptr a6 fun p7 =>
  BIf p7.isNone (
   CallT Go.Proofs.Try.prog 17 [] (.s (.one .ptr)) fun p8 =>
   k (.pointer p8)) (
   NN node_1 fun a9 =>
   LoadT .ptr a9 fun p10 =>
   New [.pointer p10, .int .i64 (-1)] 75 fun n11 =>
   k (.pointer (some ⟨n11, 0, none⟩)))) (
  New [.pointer node_1, .int .i64 (subI .i64 x3 1)] 75 fun n12 =>
  k (.pointer (some ⟨n12, 0, none⟩)))
theorem F46_eq (k : Value → W) (node_1 : Option Addr) (key_2 : Value) : compF Go.Proofs.Try.prog Go.Proofs.Try.f46 [] (Go.Proofs.Try.f46.body.getD .skip) [.pointer node_1, key_2] k = F46 k node_1 key_2 := by kernel_rfl
theorem F46_calls {node_1 : Option Addr} {key_2 : Value} {w : World} {R : Ending → World → Prop} (h : F46 (fun v w => R (.returned v) w) node_1 key_2 w) : Calls Go.Proofs.Try.prog 46 #[.pointer node_1, key_2] w R :=
  calls_of_compF noNum follows [] (f := 46) (fn := Go.Proofs.Try.f46) (body := Go.Proofs.Try.f46.body.getD .skip) (args := [.pointer node_1, key_2]) rfl rfl (Nat.le_of_ble_eq_true rfl) ((congrFun (F46_eq _ node_1 key_2) w).mpr h)
theorem F46_call {node_1 : Option Addr} {key_2 : Value} {w : World} {g : Fn W (RTy.leaves (.s (.one .ptr)))} (h : F46 (fun v => Back (.s (.one .ptr)) g (.returned v)) node_1 key_2 w) : CallT Go.Proofs.Try.prog 46 [.pointer node_1, key_2] (.s (.one .ptr)) g w := F46_calls h

/-! ## plus.lnode).needsSplit -/
def F47 (k : Value → W) (lnode_1 : Option Addr) (nodeSize_2 : Int) : W :=
 NN lnode_1 fun a3 =>
 LoadT .slice (a3.add 1) fun s4p s4l s4c =>
 Bind (decide ((IntKind.wrap .u64 ((s4l : Nat) : Int)) ≥ nodeSize_2)) fun y5 =>
 k (.bool y5)
theorem F47_eq (k : Value → W) (lnode_1 : Option Addr) (nodeSize_2 : Int) : compF Go.Proofs.Try.prog Go.Proofs.Try.f47 [] (Go.Proofs.Try.f47.body.getD .skip) [.pointer lnode_1, .int .u64 nodeSize_2] k = F47 k lnode_1 nodeSize_2 := by kernel_rfl
theorem F47_calls {lnode_1 : Option Addr} {nodeSize_2 : Int} {w : World} {R : Ending → World → Prop} (h : F47 (fun v w => R (.returned v) w) lnode_1 nodeSize_2 w) : Calls Go.Proofs.Try.prog 47 #[.pointer lnode_1, .int .u64 nodeSize_2] w R :=
  calls_of_compF noNum follows [] (f := 47) (fn := Go.Proofs.Try.f47) (body := Go.Proofs.Try.f47.body.getD .skip) (args := [.pointer lnode_1, .int .u64 nodeSize_2]) rfl rfl (Nat.le_of_ble_eq_true rfl) ((congrFun (F47_eq _ lnode_1 nodeSize_2) w).mpr h)
theorem F47_call {lnode_1 : Option Addr} {nodeSize_2 : Int} {w : World} {g : Fn W (RTy.leaves (.s (.one .bool)))} (h : F47 (fun v => Back (.s (.one .bool)) g (.returned v)) lnode_1 nodeSize_2 w) : CallT Go.Proofs.Try.prog 47 [.pointer lnode_1, .int .u64 nodeSize_2] (.s (.one .bool)) g w := F47_calls h

/-! ## plus.lnode).search -/
def F48 (k : Value → W) (node_1 : Option Addr) (key_2 : Value) : W :=
 NN node_1 fun a3 =>
 LoadT .slice (a3.add 1) fun s4p s4l s4c =>
 CallT Go.Proofs.Try.prog 28 [.slice s4p s4l s4c, key_2] (.s (.one (.int .i64))) fun x5 =>
 k (.int .i64 x5)
theorem F48_eq (k : Value → W) (node_1 : Option Addr) (key_2 : Value) : compF Go.Proofs.Try.prog Go.Proofs.Try.f48 [] (Go.Proofs.Try.f48.body.getD .skip) [.pointer node_1, key_2] k = F48 k node_1 key_2 := by kernel_rfl
theorem F48_calls {node_1 : Option Addr} {key_2 : Value} {w : World} {R : Ending → World → Prop} (h : F48 (fun v w => R (.returned v) w) node_1 key_2 w) : Calls Go.Proofs.Try.prog 48 #[.pointer node_1, key_2] w R :=
  calls_of_compF noNum follows [] (f := 48) (fn := Go.Proofs.Try.f48) (body := Go.Proofs.Try.f48.body.getD .skip) (args := [.pointer node_1, key_2]) rfl rfl (Nat.le_of_ble_eq_true rfl) ((congrFun (F48_eq _ node_1 key_2) w).mpr h)
theorem F48_call {node_1 : Option Addr} {key_2 : Value} {w : World} {g : Fn W (RTy.leaves (.s (.one (.int .i64))))} (h : F48 (fun v => Back (.s (.one (.int .i64))) g (.returned v)) node_1 key_2 w) : CallT Go.Proofs.Try.prog 48 [.pointer node_1, key_2] (.s (.one (.int .i64))) g w := F48_calls h

/-! ## plus.lnode).split -/
def F49 (k : Value → W) (node_1 : Option Addr) : W :=
 NN node_1 fun a2 =>
 LoadT .slice (a2.add 1) fun s3p s3l s3c =>
 BIf (decide (((s3l : Nat) : Int) < 2)) (
  k (.tuple #[.nilIface, .nilIface, .nilIface])) (
  NN node_1 fun a4 =>
  LoadT .slice (a4.add 1) fun s5p s5l s5c =>
  Req (2 ≠ (0 : Int)) <|
  Bind (quoI .i64 ((s5l : Nat) : Int) 2 : Int) fun i_6 =>
  NN node_1 fun a7 =>
  LoadT .slice (a7.add 1) fun s8p s8l s8c =>
  NN s8p fun a9 =>
  Req (0 ≤ i_6 ∧ i_6 < ((s8l : Nat) : Int)) <|
  LoadT .any (a9.add i_6.toNat) fun v10 =>
  NN node_1 fun a11 =>
  LoadT .slice (a11.add 1) fun s12p s12l s12c =>
  RawT Go.Proofs.Try.prog (Instr.makeSlice 76 (.int .i64 i_6) (.int .i64 ((s12c : Nat) : Int))) (.s (.one .slice)) fun s13p s13l s13c =>
  Drw <|
  NN node_1 fun a14 =>
  LoadT .slice (a14.add 1) fun s15p s15l s15c =>
  NN node_1 fun a16 =>
  LoadT .slice (a16.add 1) fun s17p s17l s17c =>
  RawT Go.Proofs.Try.prog (Instr.makeSlice 76 (.int .i64 (subI .i64 ((s15l : Nat) : Int) i_6)) (.int .i64 ((s17c : Nat) : Int))) (.s (.one .slice)) fun s18p s18l s18c =>
  Chk1 (a16.add 1) (.slice s17p s17l s17c) <|
  Chk1 (a14.add 1) (.slice s15p s15l s15c) <|
  NN node_1 fun a19 =>
  LoadT .slice (a19.add 1) fun s20p s20l s20c =>
  Req (0 ≤ i_6 ∧ i_6 ≤ ((s20c : Nat) : Int)) <|
  NextT Go.Proofs.Try.prog (builtin .copy #[76, 76] 3 [false, false].toArray [.slice s13p s13l s13c, .slice (sliceA s20p 0 s20c 1) (i_6.toNat - 0) (s20c - 0)].toArray) (.s (.one (.int .i64))) fun x21 =>
  NN node_1 fun a22 =>
  LoadT .slice (a22.add 1) fun s23p s23l s23c =>
  Req (0 ≤ i_6 ∧ i_6 ≤ ((s23l : Nat) : Int)) <|
  NextT Go.Proofs.Try.prog (builtin .copy #[76, 76] 3 [false, false].toArray [.slice s18p s18l s18c, .slice (sliceA s23p i_6.toNat s23c 1) (s23l - i_6.toNat) (s23c - i_6.toNat)].toArray) (.s (.one (.int .i64))) fun x24 =>
  NN node_1 fun a25 =>
  Store1 (a25.add 1) (.slice s18p s18l s18c) <|
  New [.pointer node_1, .slice s13p s13l s13c] 78 fun n26 =>
  k (.tuple #[v10, .iface 68 (.pointer (some ⟨n26, 0, none⟩)), .iface 68 (.pointer node_1)]))
theorem F49_eq (k : Value → W) (node_1 : Option Addr) : compF Go.Proofs.Try.prog Go.Proofs.Try.f49 [] (Go.Proofs.Try.f49.body.getD .skip) [.pointer node_1] k = F49 k node_1 := by kernel_rfl
theorem F49_calls {node_1 : Option Addr} {w : World} {R : Ending → World → Prop} (h : F49 (fun v w => R (.returned v) w) node_1 w) : Calls Go.Proofs.Try.prog 49 #[.pointer node_1] w R :=
  calls_of_compF noNum follows [] (f := 49) (fn := Go.Proofs.Try.f49) (body := Go.Proofs.Try.f49.body.getD .skip) (args := [.pointer node_1]) rfl rfl (Nat.le_of_ble_eq_true rfl) ((congrFun (F49_eq _ node_1) w).mpr h)
theorem F49_call {node_1 : Option Addr} {w : World} {g : Fn W (RTy.leaves (.tup [(.one .any), (.one .any), (.one .any)]))} (h : F49 (fun v => Back (.tup [(.one .any), (.one .any), (.one .any)]) g (.returned v)) node_1 w) : CallT Go.Proofs.Try.prog 49 [.pointer node_1] (.tup [(.one .any), (.one .any), (.one .any)]) g w := F49_calls h

/-! ## plus.inode).find -/
def F51_J1 (k : Value → W) (node_18 : Option Addr) (key_19 : Value) (i_20 : Int) (b21 : Bool) : W :=
 BIf b21 (
  NN node_18 fun a22 =>
  LoadT .slice (a22.add 1) fun s23p s23l s23c =>
  NN s23p fun a24 =>
  Req (0 ≤ addI .i64 i_20 1 ∧ addI .i64 i_20 1 < ((s23l : Nat) : Int)) <|
  LoadT .any (a24.add ((addI .i64 i_20 1).toNat)) fun v25 =>
  NextT Go.Proofs.Try.prog (callMethod v25 "given.example/pub-spokeshave/pub/godatastructures/btree/plus.find" [key_19].toArray) (.s (.one .ptr)) fun p26 =>
  k (.pointer p26)) (
  NN node_18 fun a27 =>
  LoadT .slice (a27.add 1) fun s28p s28l s28c =>
  NN s28p fun a29 =>
  Req (0 ≤ i_20 ∧ i_20 < ((s28l : Nat) : Int)) <|
  LoadT .any (a29.add i_20.toNat) fun v30 =>
  NextT Go.Proofs.Try.prog (callMethod v30 "given.example/pub-spokeshave/pub/godatastructures/btree/plus.find" [key_19].toArray) (.s (.one .ptr)) fun p31 =>
  k (.pointer p31))
def F51 (k : Value → W) (node_1 : Option Addr) (key_2 : Value) : W :=
 CallT Go.Proofs.Try.prog 26 [.pointer node_1, key_2] (.s (.one (.int .i64))) fun x3 =>
 NN node_1 fun a4 =>
 LoadT .slice a4 fun s5p s5l s5c =>
 BIf (x3 == ((s5l : Nat) : Int)) (
  Drw <|
  NN node_1 fun a6 =>
  LoadT .slice (a6.add 1) fun s7p s7l s7c =>
  NN node_1 fun a8 =>
  LoadT .slice (a8.add 1) fun s9p s9l s9c =>
  NN s7p fun a10 =>
  Req (0 ≤ subI .i64 ((s9l : Nat) : Int) 1 ∧ subI .i64 ((s9l : Nat) : Int) 1 < ((s7l : Nat) : Int)) <|
  LoadT .any (a10.add ((subI .i64 ((s9l : Nat) : Int) 1).toNat)) fun v11 =>
  NextT Go.Proofs.Try.prog (callMethod v11 "given.example/pub-spokeshave/pub/godatastructures/btree/plus.find" [key_2].toArray) (.s (.one .ptr)) fun p12 =>
  Chk1 (a8.add 1) (.slice s9p s9l s9c) <|
  Chk1 (a6.add 1) (.slice s7p s7l s7c) <|
  k (.pointer p12)) (
  NN node_1 fun a13 =>
  LoadT .slice a13 fun s14p s14l s14c =>
  NN s14p fun a15 =>
  Req (0 ≤ x3 ∧ x3 < ((s14l : Nat) : Int)) <|
  LoadT .any (a15.add x3.toNat) fun v16 =>
  NextT Go.Proofs.Try.prog (callMethod v16 "Compare" [key_2].toArray) (.s (.one (.int .i64))) fun x17 =>
  BIf (x17 == 0) (
   F51_J1 k node_1 key_2 x3 (x17 == 0)) (
   F51_J1 k node_1 key_2 x3 (x17 == 1)))
theorem F51_eq (k : Value → W) (node_1 : Option Addr) (key_2 : Value) : compF Go.Proofs.Try.prog Go.Proofs.Try.f51 [] (Go.Proofs.Try.f51.body.getD .skip) [.pointer node_1, key_2] k = F51 k node_1 key_2 := by kernel_rfl
theorem F51_calls {node_1 : Option Addr} {key_2 : Value} {w : World} {R : Ending → World → Prop} (h : F51 (fun v w => R (.returned v) w) node_1 key_2 w) : Calls Go.Proofs.Try.prog 51 #[.pointer node_1, key_2] w R :=
  calls_of_compF noNum follows [] (f := 51) (fn := Go.Proofs.Try.f51) (body := Go.Proofs.Try.f51.body.getD .skip) (args := [.pointer node_1, key_2]) rfl rfl (Nat.le_of_ble_eq_true rfl) ((congrFun (F51_eq _ node_1 key_2) w).mpr h)
theorem F51_call {node_1 : Option Addr} {key_2 : Value} {w : World} {g : Fn W (RTy.leaves (.s (.one .ptr)))} (h : F51 (fun v => Back (.s (.one .ptr)) g (.returned v)) node_1 key_2 w) : CallT Go.Proofs.Try.prog 51 [.pointer node_1, key_2] (.s (.one .ptr)) g w := F51_calls h

/-! ## plus.inode).insert -/
def F52_J1 (k : Value → W) (n_13 : Option Addr) (tree_14 : Option Addr) (key_15 : Value) (child_16 : Value) : W :=
 NextT Go.Proofs.Try.prog (callMethod child_16 "given.example/pub-spokeshave/pub/godatastructures/btree/plus.insert" [.pointer tree_14, key_15].toArray) (.s (.one .bool)) fun b17 =>
 BIf (!b17) (
  k (.bool b17)) (
  Drw <|
  NN tree_14 fun a18 =>
  LoadT (.int .u64) (a18.add 1) fun x19 =>
  MethOk Go.Proofs.Try.prog (.func (.method "given.example/pub-spokeshave/pub/godatastructures/btree/plus.needsSplit") #[child_16] #[]) <|
  NextT Go.Proofs.Try.prog (callMethod child_16 "given.example/pub-spokeshave/pub/godatastructures/btree/plus.needsSplit" [.int .u64 x19].toArray) (.s (.one .bool)) fun b20 =>
  BIf b20 (
   CallT Go.Proofs.Try.prog 20 [.pointer tree_14, .iface 83 (.pointer n_13), child_16] (.s (.one .any)) fun v21 =>
   k (.bool b17)) (
   k (.bool b17)))
def F52_J2 (k : Value → W) (n_27 : Option Addr) (tree_28 : Option Addr) (key_29 : Value) (i_30 : Int) (b31 : Bool) : W :=
 BIf b31 (
  NN n_27 fun a32 =>
  LoadT .slice (a32.add 1) fun s33p s33l s33c =>
  NN s33p fun a34 =>
  Req (0 ≤ addI .i64 i_30 1 ∧ addI .i64 i_30 1 < ((s33l : Nat) : Int)) <|
  LoadT .any (a34.add ((addI .i64 i_30 1).toNat)) fun v35 =>
  F52_J1 k n_27 tree_28 key_29 v35) (
  NN n_27 fun a36 =>
  LoadT .slice (a36.add 1) fun s37p s37l s37c =>
  NN s37p fun a38 =>
  Req (0 ≤ i_30 ∧ i_30 < ((s37l : Nat) : Int)) <|
  LoadT .any (a38.add i_30.toNat) fun v39 =>
  F52_J1 k n_27 tree_28 key_29 v39)
def F52 (k : Value → W) (n_1 : Option Addr) (tree_2 : Option Addr) (key_3 : Value) : W :=
 CallT Go.Proofs.Try.prog 26 [.pointer n_1, key_3] (.s (.one (.int .i64))) fun x4 =>
 NN n_1 fun a5 =>
 LoadT .slice a5 fun s6p s6l s6c =>
 BIf (x4 == ((s6l : Nat) : Int)) (
  Drw <|
  NN n_1 fun a7 =>
  LoadT .slice (a7.add 1) fun s8p s8l s8c =>
  NN n_1 fun a9 =>
  LoadT .slice (a9.add 1) fun s10p s10l s10c =>
  NN s8p fun a11 =>
  Req (0 ≤ subI .i64 ((s10l : Nat) : Int) 1 ∧ subI .i64 ((s10l : Nat) : Int) 1 < ((s8l : Nat) : Int)) <|
  LoadT .any (a11.add ((subI .i64 ((s10l : Nat) : Int) 1).toNat)) fun v12 =>
  F52_J1 k n_1 tree_2 key_3 v12) (
  NN n_1 fun a22 =>
  LoadT .slice a22 fun s23p s23l s23c =>
  NN s23p fun a24 =>
  Req (0 ≤ x4 ∧ x4 < ((s23l : Nat) : Int)) <|
  LoadT .any (a24.add x4.toNat) fun v25 =>
  NextT Go.Proofs.Try.prog (callMethod v25 "Compare" [key_3].toArray) (.s (.one (.int .i64))) fun x26 =>
  BIf (x26 == 1) (
   F52_J2 k n_1 tree_2 key_3 x4 (x26 == 1)) (
   F52_J2 k n_1 tree_2 key_3 x4 (x26 == 0)))
theorem F52_eq (k : Value → W) (n_1 : Option Addr) (tree_2 : Option Addr) (key_3 : Value) : compF Go.Proofs.Try.prog Go.Proofs.Try.f52 [] (Go.Proofs.Try.f52.body.getD .skip) [.pointer n_1, .pointer tree_2, key_3] k = F52 k n_1 tree_2 key_3 := by kernel_rfl
theorem F52_calls {n_1 : Option Addr} {tree_2 : Option Addr} {key_3 : Value} {w : World} {R : Ending → World → Prop} (h : F52 (fun v w => R (.returned v) w) n_1 tree_2 key_3 w) : Calls Go.Proofs.Try.prog 52 #[.pointer n_1, .pointer tree_2, key_3] w R :=
  calls_of_compF noNum follows [] (f := 52) (fn := Go.Proofs.Try.f52) (body := Go.Proofs.Try.f52.body.getD .skip) (args := [.pointer n_1, .pointer tree_2, key_3]) rfl rfl (Nat.le_of_ble_eq_true rfl) ((congrFun (F52_eq _ n_1 tree_2 key_3) w).mpr h)
theorem F52_call {n_1 : Option Addr} {tree_2 : Option Addr} {key_3 : Value} {w : World} {g : Fn W (RTy.leaves (.s (.one .bool)))} (h : F52 (fun v => Back (.s (.one .bool)) g (.returned v)) n_1 tree_2 key_3 w) : CallT Go.Proofs.Try.prog 52 [.pointer n_1, .pointer tree_2, key_3] (.s (.one .bool)) g w := F52_calls h

/-! ## plus.inode).needsSplit -/
def F53 (k : Value → W) (n_1 : Option Addr) (nodeSize_2 : Int) : W :=
 NN n_1 fun a3 =>
 LoadT .slice a3 fun s4p s4l s4c =>
 Bind (decide ((IntKind.wrap .u64 ((s4l : Nat) : Int)) ≥ nodeSize_2)) fun y5 =>
 k (.bool y5)
theorem F53_eq (k : Value → W) (n_1 : Option Addr) (nodeSize_2 : Int) : compF Go.Proofs.Try.prog Go.Proofs.Try.f53 [] (Go.Proofs.Try.f53.body.getD .skip) [.pointer n_1, .int .u64 nodeSize_2] k = F53 k n_1 nodeSize_2 := by kernel_rfl
theorem F53_calls {n_1 : Option Addr} {nodeSize_2 : Int} {w : World} {R : Ending → World → Prop} (h : F53 (fun v w => R (.returned v) w) n_1 nodeSize_2 w) : Calls Go.Proofs.Try.prog 53 #[.pointer n_1, .int .u64 nodeSize_2] w R :=
  calls_of_compF noNum follows [] (f := 53) (fn := Go.Proofs.Try.f53) (body := Go.Proofs.Try.f53.body.getD .skip) (args := [.pointer n_1, .int .u64 nodeSize_2]) rfl rfl (Nat.le_of_ble_eq_true rfl) ((congrFun (F53_eq _ n_1 nodeSize_2) w).mpr h)
theorem F53_call {n_1 : Option Addr} {nodeSize_2 : Int} {w : World} {g : Fn W (RTy.leaves (.s (.one .bool)))} (h : F53 (fun v => Back (.s (.one .bool)) g (.returned v)) n_1 nodeSize_2 w) : CallT Go.Proofs.Try.prog 53 [.pointer n_1, .int .u64 nodeSize_2] (.s (.one .bool)) g w := F53_calls h

/-! ## plus.inode).split -/
def F54 (k : Value → W) (n_1 : Option Addr) : W :=
 NN n_1 fun a2 =>
 LoadT .slice a2 fun s3p s3l s3c =>
 BIf (decide (((s3l : Nat) : Int) < 3)) (
  k (.tuple #[.nilIface, .nilIface, .nilIface])) (
  NN n_1 fun a4 =>
  LoadT .slice a4 fun s5p s5l s5c =>
  Req (2 ≠ (0 : Int)) <|
  Bind (quoI .i64 ((s5l : Nat) : Int) 2 : Int) fun i_6 =>
  NN n_1 fun a7 =>
  LoadT .slice a7 fun s8p s8l s8c =>
  NN s8p fun a9 =>
  Req (0 ≤ i_6 ∧ i_6 < ((s8l : Nat) : Int)) <|
  LoadT .any (a9.add i_6.toNat) fun v10 =>
  Drw <|
  NN n_1 fun a11 =>
  LoadT .slice a11 fun s12p s12l s12c =>
  NN n_1 fun a13 =>
  LoadT .slice a13 fun s14p s14l s14c =>
  RawT Go.Proofs.Try.prog (Instr.makeSlice 76 (.int .i64 (subI .i64 (subI .i64 ((s12l : Nat) : Int) i_6) 1)) (.int .i64 ((s14c : Nat) : Int))) (.s (.one .slice)) fun s15p s15l s15c =>
  Chk1 a13 (.slice s14p s14l s14c) <|
  Chk1 a11 (.slice s12p s12l s12c) <|
  NN n_1 fun a16 =>
  LoadT .slice a16 fun s17p s17l s17c =>
  RawT Go.Proofs.Try.prog (Instr.makeSlice 76 (.int .i64 i_6) (.int .i64 ((s17c : Nat) : Int))) (.s (.one .slice)) fun s18p s18l s18c =>
  NN n_1 fun a19 =>
  LoadT .slice a19 fun s20p s20l s20c =>
  Req (0 ≤ addI .i64 i_6 1 ∧ addI .i64 i_6 1 ≤ ((s20l : Nat) : Int)) <|
  NextT Go.Proofs.Try.prog (builtin .copy #[76, 76] 3 [false, false].toArray [.slice s15p s15l s15c, .slice (sliceA s20p ((addI .i64 i_6 1).toNat) s20c 1) (s20l - ((addI .i64 i_6 1).toNat)) (s20c - ((addI .i64 i_6 1).toNat))].toArray) (.s (.one (.int .i64))) fun x21 =>
  NN n_1 fun a22 =>
  LoadT .slice a22 fun s23p s23l s23c =>
  Req (0 ≤ i_6 ∧ i_6 ≤ ((s23c : Nat) : Int)) <|
  NextT Go.Proofs.Try.prog (builtin .copy #[76, 76] 3 [false, false].toArray [.slice s18p s18l s18c, .slice (sliceA s23p 0 s23c 1) (i_6.toNat - 0) (s23c - 0)].toArray) (.s (.one (.int .i64))) fun x24 =>
  NN n_1 fun a25 =>
  LoadT .slice (a25.add 1) fun s26p s26l s26c =>
  CallT Go.Proofs.Try.prog 55 [.slice s26p s26l s26c, .int .i64 (addI .i64 i_6 1)] (.tup [(.one .slice), (.one .slice)]) fun s27p s27l s27c s28p s28l s28c =>
  New [.slice s18p s18l s18c, .slice s27p s27l s27c] 88 fun n29 =>
  NN n_1 fun a30 =>
  Store1 a30 (.slice s15p s15l s15c) <|
  NN n_1 fun a31 =>
  Store1 (a31.add 1) (.slice s28p s28l s28c) <|
  k (.tuple #[v10, .iface 83 (.pointer (some ⟨n29, 0, none⟩)), .iface 83 (.pointer n_1)]))
theorem F54_eq (k : Value → W) (n_1 : Option Addr) : compF Go.Proofs.Try.prog Go.Proofs.Try.f54 [] (Go.Proofs.Try.f54.body.getD .skip) [.pointer n_1] k = F54 k n_1 := by kernel_rfl
theorem F54_calls {n_1 : Option Addr} {w : World} {R : Ending → World → Prop} (h : F54 (fun v w => R (.returned v) w) n_1 w) : Calls Go.Proofs.Try.prog 54 #[.pointer n_1] w R :=
  calls_of_compF noNum follows [] (f := 54) (fn := Go.Proofs.Try.f54) (body := Go.Proofs.Try.f54.body.getD .skip) (args := [.pointer n_1]) rfl rfl (Nat.le_of_ble_eq_true rfl) ((congrFun (F54_eq _ n_1) w).mpr h)
theorem F54_call {n_1 : Option Addr} {w : World} {g : Fn W (RTy.leaves (.tup [(.one .any), (.one .any), (.one .any)]))} (h : F54 (fun v => Back (.tup [(.one .any), (.one .any), (.one .any)]) g (.returned v)) n_1 w) : CallT Go.Proofs.Try.prog 54 [.pointer n_1] (.tup [(.one .any), (.one .any), (.one .any)]) g w := F54_calls h

/-! ## plus.nodes).splitAt -/
def F55 (k : Value → W) (ns_1p : Option Addr) (ns_1l : Nat) (ns_1c : Nat) (i_2 : Int) : W :=
 RawT Go.Proofs.Try.prog (Instr.makeSlice 86 (.int .i64 i_2) (.int .i64 ((ns_1c : Nat) : Int))) (.s (.one .slice)) fun s3p s3l s3c =>
 RawT Go.Proofs.Try.prog (Instr.makeSlice 86 (.int .i64 (subI .i64 ((ns_1l : Nat) : Int) i_2)) (.int .i64 ((ns_1c : Nat) : Int))) (.s (.one .slice)) fun s4p s4l s4c =>
 Req (0 ≤ i_2 ∧ i_2 ≤ ((ns_1c : Nat) : Int)) <|
 NextT Go.Proofs.Try.prog (builtin .copy #[86, 86] 3 [false, false].toArray [.slice s3p s3l s3c, .slice (sliceA ns_1p 0 ns_1c 1) (i_2.toNat - 0) (ns_1c - 0)].toArray) (.s (.one (.int .i64))) fun x5 =>
 Req (0 ≤ i_2 ∧ i_2 ≤ ((ns_1l : Nat) : Int)) <|
 NextT Go.Proofs.Try.prog (builtin .copy #[86, 86] 3 [false, false].toArray [.slice s4p s4l s4c, .slice (sliceA ns_1p i_2.toNat ns_1c 1) (ns_1l - i_2.toNat) (ns_1c - i_2.toNat)].toArray) (.s (.one (.int .i64))) fun x6 =>
 k (.tuple #[.slice s3p s3l s3c, .slice s4p s4l s4c])
theorem F55_eq (k : Value → W) (ns_1p : Option Addr) (ns_1l : Nat) (ns_1c : Nat) (i_2 : Int) : compF Go.Proofs.Try.prog Go.Proofs.Try.f55 [] (Go.Proofs.Try.f55.body.getD .skip) [.slice ns_1p ns_1l ns_1c, .int .i64 i_2] k = F55 k ns_1p ns_1l ns_1c i_2 := by kernel_rfl
theorem F55_calls {ns_1p : Option Addr} {ns_1l : Nat} {ns_1c : Nat} {i_2 : Int} {w : World} {R : Ending → World → Prop} (h : F55 (fun v w => R (.returned v) w) ns_1p ns_1l ns_1c i_2 w) : Calls Go.Proofs.Try.prog 55 #[.slice ns_1p ns_1l ns_1c, .int .i64 i_2] w R :=
  calls_of_compF noNum follows [] (f := 55) (fn := Go.Proofs.Try.f55) (body := Go.Proofs.Try.f55.body.getD .skip) (args := [.slice ns_1p ns_1l ns_1c, .int .i64 i_2]) rfl rfl (Nat.le_of_ble_eq_true rfl) ((congrFun (F55_eq _ ns_1p ns_1l ns_1c i_2) w).mpr h)
theorem F55_call {ns_1p : Option Addr} {ns_1l : Nat} {ns_1c : Nat} {i_2 : Int} {w : World} {g : Fn W (RTy.leaves (.tup [(.one .slice), (.one .slice)]))} (h : F55 (fun v => Back (.tup [(.one .slice), (.one .slice)]) g (.returned v)) ns_1p ns_1l ns_1c i_2 w) : CallT Go.Proofs.Try.prog 55 [.slice ns_1p ns_1l ns_1c, .int .i64 i_2] (.tup [(.one .slice), (.one .slice)]) g w := F55_calls h

end Go.Proofs.Ytofnapddoiodkaa.E
