/-
  Printed by this session's own program eng.py out of Lean's print of the loaded functions: what each function's body asks, in the engine's words; each is checked against the program by the kernel.
-/
import Derived.Test.YtaacaokocamlcaaDoorEng
import Derived.Test.YtaacaokocamlcaaDoorProg
namespace Go.Proofs.YtaacaokocamlcaaDoor.E
open Go
set_option linter.unusedVariables false
set_option maxRecDepth 100000
theorem noNum : NoNum Go.Proofs.Tryd.prog := noNum_of (by kernel_rfl)
theorem follows : (Go.Proofs.Tryd.prog).follows .mixedOrders = true := by kernel_rfl

/-! ## laws.trBits -/
def F7 (k : Value → W) (size_1 : Int) : W :=
 Req (4 ≠ (0 : Int)) <|
 Req (0 ≤ remI size_1 4) <|
 Bind (shlI .i64 8 (remI size_1 4).toNat : Int) fun y2 =>
 k (.int .i64 y2)
theorem F7_eq (k : Value → W) (size_1 : Int) : compF Go.Proofs.Tryd.prog Go.Proofs.Tryd.f7 [] (Go.Proofs.Tryd.f7.body.getD .skip) [.int .u8 size_1] k = F7 k size_1 := by kernel_rfl
theorem F7_calls {size_1 : Int} {w : World} {R : Ending → World → Prop} (h : F7 (fun v w => R (.returned v) w) size_1 w) : Calls Go.Proofs.Tryd.prog 7 #[.int .u8 size_1] w R :=
  calls_of_compF noNum follows [] (f := 7) (fn := Go.Proofs.Tryd.f7) (body := Go.Proofs.Tryd.f7.body.getD .skip) (args := [.int .u8 size_1]) rfl rfl (Nat.le_of_ble_eq_true rfl) ((congrFun (F7_eq _ size_1) w).mpr h)
theorem F7_call {size_1 : Int} {w : World} {g : Fn W (RTy.leaves (.s (.one (.int .i64))))} (h : F7 (fun v => Back (.s (.one (.int .i64))) g (.returned v)) size_1 w) : CallT Go.Proofs.Tryd.prog 7 [.int .u8 size_1] (.s (.one (.int .i64))) g w := F7_calls h

/-! ## spec.TRMask -/
def F13 (k : Value → W) (bits_1 : Int) : W :=
 BIf (decide (bits_1 ≥ 64)) (
  k (.int .u64 18446744073709551615)) (
  Req (0 ≤ IntKind.wrap .u64 bits_1) <|
  Bind (subI .u64 (shlI .u64 1 (IntKind.wrap .u64 bits_1).toNat) 1 : Int) fun y2 =>
  k (.int .u64 y2))
theorem F13_eq (k : Value → W) (bits_1 : Int) : compF Go.Proofs.Tryd.prog Go.Proofs.Tryd.f13 [] (Go.Proofs.Tryd.f13.body.getD .skip) [.int .i64 bits_1] k = F13 k bits_1 := by kernel_rfl
theorem F13_calls {bits_1 : Int} {w : World} {R : Ending → World → Prop} (h : F13 (fun v w => R (.returned v) w) bits_1 w) : Calls Go.Proofs.Tryd.prog 13 #[.int .i64 bits_1] w R :=
  calls_of_compF noNum follows [] (f := 13) (fn := Go.Proofs.Tryd.f13) (body := Go.Proofs.Tryd.f13.body.getD .skip) (args := [.int .i64 bits_1]) rfl rfl (Nat.le_of_ble_eq_true rfl) ((congrFun (F13_eq _ bits_1) w).mpr h)
theorem F13_call {bits_1 : Int} {w : World} {g : Fn W (RTy.leaves (.s (.one (.int .u64))))} (h : F13 (fun v => Back (.s (.one (.int .u64))) g (.returned v)) bits_1 w) : CallT Go.Proofs.Tryd.prog 13 [.int .i64 bits_1] (.s (.one (.int .u64))) g w := F13_calls h

/-! ## xfast.isInternal -/
def F62 (k : Value → W) (n_1 : Option Addr) : W :=
 BIf n_1.isNone (
  k (.bool false)) (
  NN n_1 fun a2 =>
  LoadT .any a2 fun v3 =>
  IfaceNil v3 fun b4 =>
  k (.bool b4))
theorem F62_eq (k : Value → W) (n_1 : Option Addr) : compF Go.Proofs.Tryd.prog Go.Proofs.Tryd.f62 [] (Go.Proofs.Tryd.f62.body.getD .skip) [.pointer n_1] k = F62 k n_1 := by kernel_rfl
theorem F62_calls {n_1 : Option Addr} {w : World} {R : Ending → World → Prop} (h : F62 (fun v w => R (.returned v) w) n_1 w) : Calls Go.Proofs.Tryd.prog 62 #[.pointer n_1] w R :=
  calls_of_compF noNum follows [] (f := 62) (fn := Go.Proofs.Tryd.f62) (body := Go.Proofs.Tryd.f62.body.getD .skip) (args := [.pointer n_1]) rfl rfl (Nat.le_of_ble_eq_true rfl) ((congrFun (F62_eq _ n_1) w).mpr h)
theorem F62_call {n_1 : Option Addr} {w : World} {g : Fn W (RTy.leaves (.s (.one .bool)))} (h : F62 (fun v => Back (.s (.one .bool)) g (.returned v)) n_1 w) : CallT Go.Proofs.Tryd.prog 62 [.pointer n_1] (.s (.one .bool)) g w := F62_calls h

/-! ## xfast.isLeaf -/
def F52 (k : Value → W) (n_1 : Option Addr) : W :=
 BIf n_1.isNone (
  k (.bool false)) (
  CallT Go.Proofs.Tryd.prog 62 [.pointer n_1] (.s (.one .bool)) fun b2 =>
  k (.bool (!b2)))
theorem F52_eq (k : Value → W) (n_1 : Option Addr) : compF Go.Proofs.Tryd.prog Go.Proofs.Tryd.f52 [] (Go.Proofs.Tryd.f52.body.getD .skip) [.pointer n_1] k = F52 k n_1 := by kernel_rfl
theorem F52_calls {n_1 : Option Addr} {w : World} {R : Ending → World → Prop} (h : F52 (fun v w => R (.returned v) w) n_1 w) : Calls Go.Proofs.Tryd.prog 52 #[.pointer n_1] w R :=
  calls_of_compF noNum follows [] (f := 52) (fn := Go.Proofs.Tryd.f52) (body := Go.Proofs.Tryd.f52.body.getD .skip) (args := [.pointer n_1]) rfl rfl (Nat.le_of_ble_eq_true rfl) ((congrFun (F52_eq _ n_1) w).mpr h)
theorem F52_call {n_1 : Option Addr} {w : World} {g : Fn W (RTy.leaves (.s (.one .bool)))} (h : F52 (fun v => Back (.s (.one .bool)) g (.returned v)) n_1 w) : CallT Go.Proofs.Tryd.prog 52 [.pointer n_1] (.s (.one .bool)) g w := F52_calls h

/-! ## xfast.newNode -/
def F48 (k : Value → W) (parent_1 : Option Addr) (entry_2 : Value) : W :=
 Req (oneC entry_2 = true) <|
 New [entry_2, .pointer none, .pointer none, .pointer parent_1] 91 fun n3 =>
 k (.pointer (some ⟨n3, 0, none⟩))
theorem F48_eq (k : Value → W) (parent_1 : Option Addr) (entry_2 : Value) : compF Go.Proofs.Tryd.prog Go.Proofs.Tryd.f48 [] (Go.Proofs.Tryd.f48.body.getD .skip) [.pointer parent_1, entry_2] k = F48 k parent_1 entry_2 := by kernel_rfl
theorem F48_calls {parent_1 : Option Addr} {entry_2 : Value} {w : World} {R : Ending → World → Prop} (h : F48 (fun v w => R (.returned v) w) parent_1 entry_2 w) : Calls Go.Proofs.Tryd.prog 48 #[.pointer parent_1, entry_2] w R :=
  calls_of_compF noNum follows [] (f := 48) (fn := Go.Proofs.Tryd.f48) (body := Go.Proofs.Tryd.f48.body.getD .skip) (args := [.pointer parent_1, entry_2]) rfl rfl (Nat.le_of_ble_eq_true rfl) ((congrFun (F48_eq _ parent_1 entry_2) w).mpr h)
theorem F48_call {parent_1 : Option Addr} {entry_2 : Value} {w : World} {g : Fn W (RTy.leaves (.s (.one .ptr)))} (h : F48 (fun v => Back (.s (.one .ptr)) g (.returned v)) parent_1 entry_2 w) : CallT Go.Proofs.Tryd.prog 48 [.pointer parent_1, entry_2] (.s (.one .ptr)) g w := F48_calls h

/-! ## xfast.XFastTrie).init -/
def F41_L1 (k : Value → W) (again15 : Option Addr → Int → Int → W) (xft_12 : Option Addr) (bits_13 : Int) (i_14 : Int) : W :=
 BIf (decide (i_14 < bits_13)) (
  NN xft_12 fun a16 =>
  LoadT .slice a16 fun s17p s17l s17c =>
  RawT Go.Proofs.Tryd.prog (Instr.makeMap 88 (some (.int .i64 50))) (.s (.one .map)) fun m18 =>
  NN s17p fun a19 =>
  Req (0 ≤ i_14 ∧ i_14 < ((s17l : Nat) : Int)) <|
  Store1 (a19.add i_14.toNat) (.map m18) <|
  again15 xft_12 bits_13 (addI .u8 i_14 1)) (
  NN xft_12 fun a20 =>
  Store1 (a20.add 2) (.int .u64 0) <|
  CallT Go.Proofs.Tryd.prog 48 [.pointer none, .nilIface] (.s (.one .ptr)) fun p21 =>
  NN xft_12 fun a22 =>
  Store1 (a22.add 1) (.pointer p21) <|
  k (.tuple #[]))
theorem F41_L1_rule {k : Value → W} (I : Option Addr → Int → Int → W) (μ : Option Addr → Int → Int → World → Nat)
  (hr : ∀ (xft_12 : Option Addr) (bits_13 : Int) (i_14 : Int) (w : World), I xft_12 bits_13 i_14 w → F41_L1 k (fun xft_12' bits_13' i_14' w' => I xft_12' bits_13' i_14' w' ∧ μ xft_12' bits_13' i_14' w' < μ xft_12 bits_13 i_14 w) xft_12 bits_13 i_14 w)
  {w : World} {xft_12 : Option Addr} {bits_13 : Int} {i_14 : Int} (h : I xft_12 bits_13 i_14 w) : Loop [.ptr, (.int .u8), (.int .u8)] (F41_L1 k) xft_12 bits_13 i_14 w :=
  Loop_intro (ts := [.ptr, (.int .u8), (.int .u8)]) (s := (xft_12, bits_13, i_14, ())) (fun s w => I s.1 s.2.1 s.2.2.1 w) (fun s w => μ s.1 s.2.1 s.2.2.1 w) h (fun s w h => hr s.1 s.2.1 s.2.2.1 w h)
def F41_J1 (k : Value → W) (xft_6 : Option Addr) (bits_7 : Int) : W :=
 RawT Go.Proofs.Tryd.prog (Instr.makeSlice 79 (.int .u8 bits_7) (.int .u8 bits_7)) (.s (.one .slice)) fun s8p s8l s8c =>
 NN xft_6 fun a9 =>
 Store1 a9 (.slice s8p s8l s8c) <|
 NN xft_6 fun a10 =>
 Store1 (a10.add 3) (.int .u8 bits_7) <|
 NN xft_6 fun a11 =>
 Store1 (a11.add 4) (.int .u8 (subI .u8 64 bits_7)) <|
 Loop [.ptr, (.int .u8), (.int .u8)] (F41_L1 k) xft_6 bits_7 0
def F41_J2 (k : Value → W) (xft_35 : Option Addr) (bits_36 : Int) (b37 : Bool) : W :=
 BIf b37 (
  F41_J1 k xft_35 64) (
  bot)
def F41 (k : Value → W) (xft_1 : Option Addr) (intType_2 : Value) : W :=
 RawS Go.Proofs.Tryd.prog (Instr.typeAssert intType_2 20 5 true) (.s (.one .any)) fun v3 =>
 ExtW v3 1 (.one .bool) fun b4 =>
 ExtW v3 0 (.one (.int .u8)) fun x5 =>
 BIf b4 (
  F41_J1 k xft_1 8) (
  RawS Go.Proofs.Tryd.prog (Instr.typeAssert intType_2 20 23 true) (.s (.one .any)) fun v23 =>
  ExtW v23 1 (.one .bool) fun b24 =>
  ExtW v23 0 (.one (.int .u16)) fun x25 =>
  BIf b24 (
   F41_J1 k xft_1 16) (
   RawS Go.Proofs.Tryd.prog (Instr.typeAssert intType_2 20 84 true) (.s (.one .any)) fun v26 =>
   ExtW v26 1 (.one .bool) fun b27 =>
   ExtW v26 0 (.one (.int .u32)) fun x28 =>
   BIf b27 (
    F41_J1 k xft_1 32) (
    RawS Go.Proofs.Tryd.prog (Instr.typeAssert intType_2 20 68 true) (.s (.one .any)) fun v29 =>
    ExtW v29 1 (.one .bool) fun b30 =>
    ExtW v29 0 (.one (.int .u64)) fun x31 =>
    RawS Go.Proofs.Tryd.prog (Instr.typeAssert intType_2 20 22 true) (.s (.one .any)) fun v32 =>
    ExtW v32 1 (.one .bool) fun b33 =>
    ExtW v32 0 (.one (.int .u64)) fun x34 =>
    BIf b30 (
     F41_J2 k xft_1 0 true) (
     F41_J2 k xft_1 0 b33))))
theorem F41_eq (k : Value → W) (xft_1 : Option Addr) (intType_2 : Value) : compF Go.Proofs.Tryd.prog Go.Proofs.Tryd.f41 [(15, [(0, .ptr), (4, (.int .u8)), (5, (.int .u8))])] (Go.Proofs.Tryd.f41.body.getD .skip) [.pointer xft_1, intType_2] k = F41 k xft_1 intType_2 := by kernel_rfl
theorem F41_calls {xft_1 : Option Addr} {intType_2 : Value} {w : World} {R : Ending → World → Prop} (h : F41 (fun v w => R (.returned v) w) xft_1 intType_2 w) : Calls Go.Proofs.Tryd.prog 41 #[.pointer xft_1, intType_2] w R :=
  calls_of_compF noNum follows [(15, [(0, .ptr), (4, (.int .u8)), (5, (.int .u8))])] (f := 41) (fn := Go.Proofs.Tryd.f41) (body := Go.Proofs.Tryd.f41.body.getD .skip) (args := [.pointer xft_1, intType_2]) rfl rfl (Nat.le_of_ble_eq_true rfl) ((congrFun (F41_eq _ xft_1 intType_2) w).mpr h)
theorem F41_call {xft_1 : Option Addr} {intType_2 : Value} {w : World} {g : Fn W (RTy.leaves (.tup []))} (h : F41 (fun v => Back (.tup []) g (.returned v)) xft_1 intType_2 w) : CallT Go.Proofs.Tryd.prog 41 [.pointer xft_1, intType_2] (.tup []) g w := F41_calls h

/-! ## xfast.New -/
def F22 (k : Value → W) (ifc_1 : Value) : W :=
 New [.slice none 0 0, .pointer none, .int .u64 0, .int .u8 0, .int .u8 0, .pointer none, .pointer none] 82 fun n2 =>
 CallT Go.Proofs.Tryd.prog 41 [.pointer (some ⟨n2, 0, none⟩), ifc_1] (.tup []) <|
 k (.pointer (some ⟨n2, 0, none⟩))
theorem F22_eq (k : Value → W) (ifc_1 : Value) : compF Go.Proofs.Tryd.prog Go.Proofs.Tryd.f22 [] (Go.Proofs.Tryd.f22.body.getD .skip) [ifc_1] k = F22 k ifc_1 := by kernel_rfl
theorem F22_calls {ifc_1 : Value} {w : World} {R : Ending → World → Prop} (h : F22 (fun v w => R (.returned v) w) ifc_1 w) : Calls Go.Proofs.Tryd.prog 22 #[ifc_1] w R :=
  calls_of_compF noNum follows [] (f := 22) (fn := Go.Proofs.Tryd.f22) (body := Go.Proofs.Tryd.f22.body.getD .skip) (args := [ifc_1]) rfl rfl (Nat.le_of_ble_eq_true rfl) ((congrFun (F22_eq _ ifc_1) w).mpr h)
theorem F22_call {ifc_1 : Value} {w : World} {g : Fn W (RTy.leaves (.s (.one .ptr)))} (h : F22 (fun v => Back (.s (.one .ptr)) g (.returned v)) ifc_1 w) : CallT Go.Proofs.Tryd.prog 22 [ifc_1] (.s (.one .ptr)) g w := F22_calls h

/-! ## impl.universe -/
def F23 (k : Value → W) (bits_1 : Int) : W :=
 BIf (bits_1 == 8) (
  k (.iface 5 (.int .u8 0))) (
  BIf (bits_1 == 16) (
   k (.iface 23 (.int .u16 0))) (
   BIf (bits_1 == 32) (
    k (.iface 84 (.int .u32 0))) (
    k (.iface 22 (.int .u64 0)))))
theorem F23_eq (k : Value → W) (bits_1 : Int) : compF Go.Proofs.Tryd.prog Go.Proofs.Tryd.f23 [] (Go.Proofs.Tryd.f23.body.getD .skip) [.int .i64 bits_1] k = F23 k bits_1 := by kernel_rfl
theorem F23_calls {bits_1 : Int} {w : World} {R : Ending → World → Prop} (h : F23 (fun v w => R (.returned v) w) bits_1 w) : Calls Go.Proofs.Tryd.prog 23 #[.int .i64 bits_1] w R :=
  calls_of_compF noNum follows [] (f := 23) (fn := Go.Proofs.Tryd.f23) (body := Go.Proofs.Tryd.f23.body.getD .skip) (args := [.int .i64 bits_1]) rfl rfl (Nat.le_of_ble_eq_true rfl) ((congrFun (F23_eq _ bits_1) w).mpr h)
theorem F23_call {bits_1 : Int} {w : World} {g : Fn W (RTy.leaves (.s (.one .any)))} (h : F23 (fun v => Back (.s (.one .any)) g (.returned v)) bits_1 w) : CallT Go.Proofs.Tryd.prog 23 [.int .i64 bits_1] (.s (.one .any)) g w := F23_calls h

/-! ## xfast.binarySearchHashMaps -/
def F51_L1 (k : Value → W) (again11 : Option Addr → Nat → Nat → Int → Int → Int → Int → Option Addr → W) (layers_5p : Option Addr) (layers_5l : Nat) (layers_5c : Nat) (key_6 : Int) (low_7 : Int) (high_8 : Int) (diff_9 : Int) (node_10 : Option Addr) : W :=
 BIf (decide (low_7 ≤ high_8)) (
  Req (2 ≠ (0 : Int)) <|
  Bind (quoI .i64 (addI .i64 low_7 high_8) 2 : Int) fun mid_12 =>
  Drw <|
  NN layers_5p fun a13 =>
  Req (0 ≤ mid_12 ∧ mid_12 < ((layers_5l : Nat) : Int)) <|
  LoadT .map (a13.add mid_12.toNat) fun m14 =>
  Req (0 ≤ addI .i64 diff_9 mid_12 ∧ addI .i64 diff_9 mid_12 < (64 : Int)) <|
  LoadT (.int .u64) ((⟨1, 0, none⟩ : Addr).add ((addI .i64 diff_9 mid_12).toNat)) fun x15 =>
  RawS Go.Proofs.Tryd.prog (Instr.lookup 88 (.map m14) (.int .u64 (andI .u64 key_6 x15)) true) (.tup [(.one .ptr), (.one .bool)]) fun p16 b17 =>
  Chk1 ((⟨1, 0, none⟩ : Addr).add ((addI .i64 diff_9 mid_12).toNat)) (.int .u64 x15) <|
  BIf b17 (
   again11 layers_5p layers_5l layers_5c key_6 (addI .i64 mid_12 1) high_8 diff_9 p16) (
   again11 layers_5p layers_5l layers_5c key_6 low_7 (subI .i64 mid_12 1) diff_9 node_10)) (
  k (.tuple #[.int .i64 low_7, .pointer node_10]))
theorem F51_L1_rule {k : Value → W} (I : Option Addr → Nat → Nat → Int → Int → Int → Int → Option Addr → W) (μ : Option Addr → Nat → Nat → Int → Int → Int → Int → Option Addr → World → Nat)
  (hr : ∀ (layers_5p : Option Addr) (layers_5l : Nat) (layers_5c : Nat) (key_6 : Int) (low_7 : Int) (high_8 : Int) (diff_9 : Int) (node_10 : Option Addr) (w : World), I layers_5p layers_5l layers_5c key_6 low_7 high_8 diff_9 node_10 w → F51_L1 k (fun layers_5p' layers_5l' layers_5c' key_6' low_7' high_8' diff_9' node_10' w' => I layers_5p' layers_5l' layers_5c' key_6' low_7' high_8' diff_9' node_10' w' ∧ μ layers_5p' layers_5l' layers_5c' key_6' low_7' high_8' diff_9' node_10' w' < μ layers_5p layers_5l layers_5c key_6 low_7 high_8 diff_9 node_10 w) layers_5p layers_5l layers_5c key_6 low_7 high_8 diff_9 node_10 w)
  {w : World} {layers_5p : Option Addr} {layers_5l : Nat} {layers_5c : Nat} {key_6 : Int} {low_7 : Int} {high_8 : Int} {diff_9 : Int} {node_10 : Option Addr} (h : I layers_5p layers_5l layers_5c key_6 low_7 high_8 diff_9 node_10 w) : Loop [.slice, (.int .u64), (.int .i64), (.int .i64), (.int .i64), .ptr] (F51_L1 k) layers_5p layers_5l layers_5c key_6 low_7 high_8 diff_9 node_10 w :=
  Loop_intro (ts := [.slice, (.int .u64), (.int .i64), (.int .i64), (.int .i64), .ptr]) (s := ((layers_5p, layers_5l, layers_5c), key_6, low_7, high_8, diff_9, node_10, ())) (fun s w => I s.1.1 s.1.2.1 s.1.2.2 s.2.1 s.2.2.1 s.2.2.2.1 s.2.2.2.2.1 s.2.2.2.2.2.1 w) (fun s w => μ s.1.1 s.1.2.1 s.1.2.2 s.2.1 s.2.2.1 s.2.2.2.1 s.2.2.2.2.1 s.2.2.2.2.2.1 w) h (fun s w h => hr s.1.1 s.1.2.1 s.1.2.2 s.2.1 s.2.2.1 s.2.2.2.1 s.2.2.2.2.1 s.2.2.2.2.2.1 w h)
def F51 (k : Value → W) (layers_1p : Option Addr) (layers_1l : Nat) (layers_1c : Nat) (key_2 : Int) : W :=
 Bind (subI .i64 ((layers_1l : Nat) : Int) 1 : Int) fun high_3 =>
 Bind (subI .i64 64 ((layers_1l : Nat) : Int) : Int) fun diff_4 =>
 Loop [.slice, (.int .u64), (.int .i64), (.int .i64), (.int .i64), .ptr] (F51_L1 k) layers_1p layers_1l layers_1c key_2 0 high_3 diff_4 none
theorem F51_eq (k : Value → W) (layers_1p : Option Addr) (layers_1l : Nat) (layers_1c : Nat) (key_2 : Int) : compF Go.Proofs.Tryd.prog Go.Proofs.Tryd.f51 [(5, [(0, .slice), (1, (.int .u64)), (6, (.int .i64)), (7, (.int .i64)), (8, (.int .i64)), (10, .ptr)])] (Go.Proofs.Tryd.f51.body.getD .skip) [.slice layers_1p layers_1l layers_1c, .int .u64 key_2] k = F51 k layers_1p layers_1l layers_1c key_2 := by kernel_rfl
theorem F51_calls {layers_1p : Option Addr} {layers_1l : Nat} {layers_1c : Nat} {key_2 : Int} {w : World} {R : Ending → World → Prop} (h : F51 (fun v w => R (.returned v) w) layers_1p layers_1l layers_1c key_2 w) : Calls Go.Proofs.Tryd.prog 51 #[.slice layers_1p layers_1l layers_1c, .int .u64 key_2] w R :=
  calls_of_compF noNum follows [(5, [(0, .slice), (1, (.int .u64)), (6, (.int .i64)), (7, (.int .i64)), (8, (.int .i64)), (10, .ptr)])] (f := 51) (fn := Go.Proofs.Tryd.f51) (body := Go.Proofs.Tryd.f51.body.getD .skip) (args := [.slice layers_1p layers_1l layers_1c, .int .u64 key_2]) rfl rfl (Nat.le_of_ble_eq_true rfl) ((congrFun (F51_eq _ layers_1p layers_1l layers_1c key_2) w).mpr h)
theorem F51_call {layers_1p : Option Addr} {layers_1l : Nat} {layers_1c : Nat} {key_2 : Int} {w : World} {g : Fn W (RTy.leaves (.tup [(.one (.int .i64)), (.one .ptr)]))} (h : F51 (fun v => Back (.tup [(.one (.int .i64)), (.one .ptr)]) g (.returned v)) layers_1p layers_1l layers_1c key_2 w) : CallT Go.Proofs.Tryd.prog 51 [.slice layers_1p layers_1l layers_1c, .int .u64 key_2] (.tup [(.one (.int .i64)), (.one .ptr)]) g w := F51_calls h

end Go.Proofs.YtaacaokocamlcaaDoor.E
