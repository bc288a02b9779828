/-
  Printed by this session's own program eng.py out of Lean's print of the loaded functions: what each function's body asks, in the engine's words; each is checked against the program by the kernel.
-/
import Derived.Test.YtfokodpnoiilbaaGreatEng
import Derived.Test.YtfokodpnoiilbaaGreatProg
namespace Go.Proofs.YtfokodpnoiilbaaGreat.E
open Go
set_option linter.unusedVariables false
set_option maxRecDepth 100000
theorem noNum : NoNum Go.Proofs.Tryz.prog := noNum_of (by kernel_rfl)
theorem follows : (Go.Proofs.Tryz.prog).follows .mixedOrders = true := by kernel_rfl

/-! ## skip.newNode -/
def F33 (k : Value → W) (cmp_1 : Value) (maxLevels_2 : Int) : W :=
 Drw <|
 Both (
  RawT Go.Proofs.Tryz.prog (Instr.makeSlice 103 (.int .u8 maxLevels_2) (.int .u8 maxLevels_2)) (.s (.one .slice)) fun s3p s3l s3c =>
  RawT Go.Proofs.Tryz.prog (Instr.makeSlice 105 (.int .u8 maxLevels_2) (.int .u8 maxLevels_2)) (.s (.one .slice)) fun s4p s4l s4c =>
  Req (oneC cmp_1 = true) <|
  New [.slice s3p s3l s3c, .slice s4p s4l s4c, cmp_1] 117 fun n5 =>
  k (.pointer (some ⟨n5, 0, none⟩))) (
  RawT Go.Proofs.Tryz.prog (Instr.makeSlice 105 (.int .u8 maxLevels_2) (.int .u8 maxLevels_2)) (.s (.one .slice)) fun s6p s6l s6c =>
  RawT Go.Proofs.Tryz.prog (Instr.makeSlice 103 (.int .u8 maxLevels_2) (.int .u8 maxLevels_2)) (.s (.one .slice)) fun s7p s7l s7c =>
  Req (oneC cmp_1 = true) <|
  New [.slice s7p s7l s7c, .slice s6p s6l s6c, cmp_1] 117 fun n8 =>
  k (.pointer (some ⟨n8, 0, none⟩)))
theorem F33_eq (k : Value → W) (cmp_1 : Value) (maxLevels_2 : Int) : compF Go.Proofs.Tryz.prog Go.Proofs.Tryz.f33 [] (Go.Proofs.Tryz.f33.body.getD .skip) [cmp_1, .int .u8 maxLevels_2] k = F33 k cmp_1 maxLevels_2 := by kernel_rfl
theorem F33_calls {cmp_1 : Value} {maxLevels_2 : Int} {w : World} {R : Ending → World → Prop} (h : F33 (fun v w => R (.returned v) w) cmp_1 maxLevels_2 w) : Calls Go.Proofs.Tryz.prog 33 #[cmp_1, .int .u8 maxLevels_2] w R :=
  calls_of_compF noNum follows [] (f := 33) (fn := Go.Proofs.Tryz.f33) (body := Go.Proofs.Tryz.f33.body.getD .skip) (args := [cmp_1, .int .u8 maxLevels_2]) rfl rfl (Nat.le_of_ble_eq_true rfl) ((congrFun (F33_eq _ cmp_1 maxLevels_2) w).mpr h)
theorem F33_call {cmp_1 : Value} {maxLevels_2 : Int} {w : World} {g : Fn W (RTy.leaves (.s (.one .ptr)))} (h : F33 (fun v => Back (.s (.one .ptr)) g (.returned v)) cmp_1 maxLevels_2 w) : CallT Go.Proofs.Tryz.prog 33 [cmp_1, .int .u8 maxLevels_2] (.s (.one .ptr)) g w := F33_calls h

/-! ## skip.SkipList).init -/
def F32_J1 (k : Value → W) (sl_7 : Option Addr) : W :=
 NN sl_7 fun a8 =>
 LoadT (.int .u8) a8 fun x9 =>
 RawT Go.Proofs.Tryz.prog (Instr.makeSlice 103 (.int .u8 x9) (.int .u8 x9)) (.s (.one .slice)) fun s10p s10l s10c =>
 NN sl_7 fun a11 =>
 Store1 (a11.add 4) (.slice s10p s10l s10c) <|
 NN sl_7 fun a12 =>
 LoadT (.int .u8) a12 fun x13 =>
 RawT Go.Proofs.Tryz.prog (Instr.makeSlice 105 (.int .u8 x13) (.int .u8 x13)) (.s (.one .slice)) fun s14p s14l s14c =>
 NN sl_7 fun a15 =>
 Store1 (a15.add 5) (.slice s14p s14l s14c) <|
 NN sl_7 fun a16 =>
 LoadT (.int .u8) a16 fun x17 =>
 CallT Go.Proofs.Tryz.prog 33 [.nilIface, .int .u8 x17] (.s (.one .ptr)) fun p18 =>
 NN sl_7 fun a19 =>
 Store1 (a19.add 2) (.pointer p18) <|
 k (.tuple #[])
def F32_J2 (k : Value → W) (sl_34 : Option Addr) (b35 : Bool) : W :=
 BIf b35 (
  NN sl_34 fun a36 =>
  Store1 a36 (.int .u8 64) <|
  F32_J1 k sl_34) (
  F32_J1 k sl_34)
def F32 (k : Value → W) (sl_1 : Option Addr) (ifc_2 : Value) : W :=
 RawS Go.Proofs.Tryz.prog (Instr.typeAssert ifc_2 20 5 true) (.s (.one .any)) fun v3 =>
 ExtW v3 1 (.one .bool) fun b4 =>
 ExtW v3 0 (.one (.int .u8)) fun x5 =>
 BIf b4 (
  NN sl_1 fun a6 =>
  Store1 a6 (.int .u8 8) <|
  F32_J1 k sl_1) (
  RawS Go.Proofs.Tryz.prog (Instr.typeAssert ifc_2 20 110 true) (.s (.one .any)) fun v20 =>
  ExtW v20 1 (.one .bool) fun b21 =>
  ExtW v20 0 (.one (.int .u16)) fun x22 =>
  BIf b21 (
   NN sl_1 fun a23 =>
   Store1 a23 (.int .u8 16) <|
   F32_J1 k sl_1) (
   RawS Go.Proofs.Tryz.prog (Instr.typeAssert ifc_2 20 111 true) (.s (.one .any)) fun v24 =>
   ExtW v24 1 (.one .bool) fun b25 =>
   ExtW v24 0 (.one (.int .u32)) fun x26 =>
   BIf b25 (
    NN sl_1 fun a27 =>
    Store1 a27 (.int .u8 32) <|
    F32_J1 k sl_1) (
    RawS Go.Proofs.Tryz.prog (Instr.typeAssert ifc_2 20 29 true) (.s (.one .any)) fun v28 =>
    ExtW v28 1 (.one .bool) fun b29 =>
    ExtW v28 0 (.one (.int .u64)) fun x30 =>
    RawS Go.Proofs.Tryz.prog (Instr.typeAssert ifc_2 20 112 true) (.s (.one .any)) fun v31 =>
    ExtW v31 1 (.one .bool) fun b32 =>
    ExtW v31 0 (.one (.int .u64)) fun x33 =>
    BIf b29 (
     F32_J2 k sl_1 true) (
     F32_J2 k sl_1 b32))))
theorem F32_eq (k : Value → W) (sl_1 : Option Addr) (ifc_2 : Value) : compF Go.Proofs.Tryz.prog Go.Proofs.Tryz.f32 [] (Go.Proofs.Tryz.f32.body.getD .skip) [.pointer sl_1, ifc_2] k = F32 k sl_1 ifc_2 := by kernel_rfl
theorem F32_calls {sl_1 : Option Addr} {ifc_2 : Value} {w : World} {R : Ending → World → Prop} (h : F32 (fun v w => R (.returned v) w) sl_1 ifc_2 w) : Calls Go.Proofs.Tryz.prog 32 #[.pointer sl_1, ifc_2] w R :=
  calls_of_compF noNum follows [] (f := 32) (fn := Go.Proofs.Tryz.f32) (body := Go.Proofs.Tryz.f32.body.getD .skip) (args := [.pointer sl_1, ifc_2]) rfl rfl (Nat.le_of_ble_eq_true rfl) ((congrFun (F32_eq _ sl_1 ifc_2) w).mpr h)
theorem F32_call {sl_1 : Option Addr} {ifc_2 : Value} {w : World} {g : Fn W (RTy.leaves (.tup []))} (h : F32 (fun v => Back (.tup []) g (.returned v)) sl_1 ifc_2 w) : CallT Go.Proofs.Tryz.prog 32 [.pointer sl_1, ifc_2] (.tup []) g w := F32_calls h

/-! ## skip.New -/
def F31 (k : Value → W) (ifc_1 : Value) : W :=
 New [.int .u8 0, .int .u8 0, .pointer none, .int .u64 0, .slice none 0 0, .slice none 0 0, .int .u64 0] 107 fun n2 =>
 CallT Go.Proofs.Tryz.prog 32 [.pointer (some ⟨n2, 0, none⟩), ifc_1] (.tup []) <|
 k (.pointer (some ⟨n2, 0, none⟩))
theorem F31_eq (k : Value → W) (ifc_1 : Value) : compF Go.Proofs.Tryz.prog Go.Proofs.Tryz.f31 [] (Go.Proofs.Tryz.f31.body.getD .skip) [ifc_1] k = F31 k ifc_1 := by kernel_rfl
theorem F31_calls {ifc_1 : Value} {w : World} {R : Ending → World → Prop} (h : F31 (fun v w => R (.returned v) w) ifc_1 w) : Calls Go.Proofs.Tryz.prog 31 #[ifc_1] w R :=
  calls_of_compF noNum follows [] (f := 31) (fn := Go.Proofs.Tryz.f31) (body := Go.Proofs.Tryz.f31.body.getD .skip) (args := [ifc_1]) rfl rfl (Nat.le_of_ble_eq_true rfl) ((congrFun (F31_eq _ ifc_1) w).mpr h)
theorem F31_call {ifc_1 : Value} {w : World} {g : Fn W (RTy.leaves (.s (.one .ptr)))} (h : F31 (fun v => Back (.s (.one .ptr)) g (.returned v)) ifc_1 w) : CallT Go.Proofs.Tryz.prog 31 [ifc_1] (.s (.one .ptr)) g w := F31_calls h

/-! ## skip.NewSeeded -/
def F29 (k : Value → W) (ifc_1 : Value) (seed_2 : Int) : W :=
 CallT Go.Proofs.Tryz.prog 31 [ifc_1] (.s (.one .ptr)) fun p3 =>
 NN p3 fun a4 =>
 Store1 (a4.add 6) (.int .u64 seed_2) <|
 k (.pointer p3)
theorem F29_eq (k : Value → W) (ifc_1 : Value) (seed_2 : Int) : compF Go.Proofs.Tryz.prog Go.Proofs.Tryz.f29 [] (Go.Proofs.Tryz.f29.body.getD .skip) [ifc_1, .int .u64 seed_2] k = F29 k ifc_1 seed_2 := by kernel_rfl
theorem F29_calls {ifc_1 : Value} {seed_2 : Int} {w : World} {R : Ending → World → Prop} (h : F29 (fun v w => R (.returned v) w) ifc_1 seed_2 w) : Calls Go.Proofs.Tryz.prog 29 #[ifc_1, .int .u64 seed_2] w R :=
  calls_of_compF noNum follows [] (f := 29) (fn := Go.Proofs.Tryz.f29) (body := Go.Proofs.Tryz.f29.body.getD .skip) (args := [ifc_1, .int .u64 seed_2]) rfl rfl (Nat.le_of_ble_eq_true rfl) ((congrFun (F29_eq _ ifc_1 seed_2) w).mpr h)
theorem F29_call {ifc_1 : Value} {seed_2 : Int} {w : World} {g : Fn W (RTy.leaves (.s (.one .ptr)))} (h : F29 (fun v => Back (.s (.one .ptr)) g (.returned v)) ifc_1 seed_2 w) : CallT Go.Proofs.Tryz.prog 29 [ifc_1, .int .u64 seed_2] (.s (.one .ptr)) g w := F29_calls h

/-! ## skip.node).Compare -/
def F72 (k : Value → W) (n_1 : Option Addr) (e_2 : Value) : W :=
 NN n_1 fun a3 =>
 LoadT .any (a3.add 2) fun v4 =>
 NextT Go.Proofs.Tryz.prog (callMethod v4 "Compare" [e_2].toArray) (.s (.one (.int .i64))) fun x5 =>
 k (.int .i64 x5)
theorem F72_eq (k : Value → W) (n_1 : Option Addr) (e_2 : Value) : compF Go.Proofs.Tryz.prog Go.Proofs.Tryz.f72 [] (Go.Proofs.Tryz.f72.body.getD .skip) [.pointer n_1, e_2] k = F72 k n_1 e_2 := by kernel_rfl
theorem F72_calls {n_1 : Option Addr} {e_2 : Value} {w : World} {R : Ending → World → Prop} (h : F72 (fun v w => R (.returned v) w) n_1 e_2 w) : Calls Go.Proofs.Tryz.prog 72 #[.pointer n_1, e_2] w R :=
  calls_of_compF noNum follows [] (f := 72) (fn := Go.Proofs.Tryz.f72) (body := Go.Proofs.Tryz.f72.body.getD .skip) (args := [.pointer n_1, e_2]) rfl rfl (Nat.le_of_ble_eq_true rfl) ((congrFun (F72_eq _ n_1 e_2) w).mpr h)
theorem F72_call {n_1 : Option Addr} {e_2 : Value} {w : World} {g : Fn W (RTy.leaves (.s (.one (.int .i64))))} (h : F72 (fun v => Back (.s (.one (.int .i64))) g (.returned v)) n_1 e_2 w) : CallT Go.Proofs.Tryz.prog 72 [.pointer n_1, e_2] (.s (.one (.int .i64))) g w := F72_calls h

/-! ## skip.SkipList).Len -/
def F75 (k : Value → W) (sl_1 : Option Addr) : W :=
 NN sl_1 fun a2 =>
 LoadT (.int .u64) (a2.add 3) fun x3 =>
 k (.int .u64 x3)
theorem F75_eq (k : Value → W) (sl_1 : Option Addr) : compF Go.Proofs.Tryz.prog Go.Proofs.Tryz.f75 [] (Go.Proofs.Tryz.f75.body.getD .skip) [.pointer sl_1] k = F75 k sl_1 := by kernel_rfl
theorem F75_calls {sl_1 : Option Addr} {w : World} {R : Ending → World → Prop} (h : F75 (fun v w => R (.returned v) w) sl_1 w) : Calls Go.Proofs.Tryz.prog 75 #[.pointer sl_1] w R :=
  calls_of_compF noNum follows [] (f := 75) (fn := Go.Proofs.Tryz.f75) (body := Go.Proofs.Tryz.f75.body.getD .skip) (args := [.pointer sl_1]) rfl rfl (Nat.le_of_ble_eq_true rfl) ((congrFun (F75_eq _ sl_1) w).mpr h)
theorem F75_call {sl_1 : Option Addr} {w : World} {g : Fn W (RTy.leaves (.s (.one (.int .u64))))} (h : F75 (fun v => Back (.s (.one (.int .u64))) g (.returned v)) sl_1 w) : CallT Go.Proofs.Tryz.prog 75 [.pointer sl_1] (.s (.one (.int .u64))) g w := F75_calls h

/-! ## skip.SkipList).search -/
def F71_J1 (k : Value → W) (again16 : Option Addr → Value → Option Addr → Nat → Nat → Option Addr → Nat → Nat → Int → Option Addr → Option Addr → Int → W) (sl_53 : Option Addr) (cmp_54 : Value) (update_55p : Option Addr) (update_55l : Nat) (update_55c : Nat) (widths_56p : Option Addr) (widths_56l : Nat) (widths_56c : Nat) (pos_57 : Int) (offset_58 : Int) (n_59 : Option Addr) (i_60 : Int) : W :=
 BIf (!update_55p.isNone) (
  NN update_55p fun a61 =>
  Req (0 ≤ offset_58 ∧ offset_58 < ((update_55l : Nat) : Int)) <|
  Store1 (a61.add offset_58.toNat) (.pointer n_59) <|
  NN widths_56p fun a62 =>
  Req (0 ≤ offset_58 ∧ offset_58 < ((widths_56l : Nat) : Int)) <|
  Store1 (a62.add offset_58.toNat) (.int .u64 pos_57) <|
  again16 sl_53 cmp_54 update_55p update_55l update_55c widths_56p widths_56l widths_56c pos_57 n_59 n_59 (addI .u8 i_60 1)) (
  again16 sl_53 cmp_54 update_55p update_55l update_55c widths_56p widths_56l widths_56c pos_57 n_59 n_59 (addI .u8 i_60 1))
def F71_L2 (k : Value → W) (again16 : Option Addr → Value → Option Addr → Nat → Nat → Option Addr → Nat → Nat → Int → Option Addr → Option Addr → Int → W) (again30 : Option Addr → Value → Option Addr → Nat → Nat → Option Addr → Nat → Nat → Int → Int → Option Addr → Option Addr → Int → W) (sl_21 : Option Addr) (cmp_22 : Value) (update_23p : Option Addr) (update_23l : Nat) (update_23c : Nat) (widths_24p : Option Addr) (widths_24l : Nat) (widths_24c : Nat) (pos_25 : Int) (offset_26 : Int) (alreadyChecked_27 : Option Addr) (n_28 : Option Addr) (i_29 : Int) : W :=
 NN n_28 fun a31 =>
 LoadT .slice a31 fun s32p s32l s32c =>
 NN s32p fun a33 =>
 Req (0 ≤ offset_26 ∧ offset_26 < ((s32l : Nat) : Int)) <|
 LoadT .ptr (a33.add offset_26.toNat) fun p34 =>
 BIf (!p34.isNone) (
  NN n_28 fun a35 =>
  LoadT .slice a35 fun s36p s36l s36c =>
  NN s36p fun a37 =>
  Req (0 ≤ offset_26 ∧ offset_26 < ((s36l : Nat) : Int)) <|
  LoadT .ptr (a37.add offset_26.toNat) fun p38 =>
  RawS Go.Proofs.Tryz.prog (binS .neq 101 (.tmp 51) (.tmp 52) (.pointer p38) (.pointer alreadyChecked_27)) (.s (.one .bool)) fun b39 =>
  BIf b39 (
   NN n_28 fun a40 =>
   LoadT .slice a40 fun s41p s41l s41c =>
   NN s41p fun a42 =>
   Req (0 ≤ offset_26 ∧ offset_26 < ((s41l : Nat) : Int)) <|
   LoadT .ptr (a42.add offset_26.toNat) fun p43 =>
   CallT Go.Proofs.Tryz.prog 72 [.pointer p43, cmp_22] (.s (.one (.int .i64))) fun x44 =>
   BIf (decide (x44 < 0)) (
    NN n_28 fun a45 =>
    LoadT .slice (a45.add 1) fun s46p s46l s46c =>
    NN s46p fun a47 =>
    Req (0 ≤ offset_26 ∧ offset_26 < ((s46l : Nat) : Int)) <|
    LoadT (.int .u64) (a47.add offset_26.toNat) fun x48 =>
    NN n_28 fun a49 =>
    LoadT .slice a49 fun s50p s50l s50c =>
    NN s50p fun a51 =>
    Req (0 ≤ offset_26 ∧ offset_26 < ((s50l : Nat) : Int)) <|
    LoadT .ptr (a51.add offset_26.toNat) fun p52 =>
    again30 sl_21 cmp_22 update_23p update_23l update_23c widths_24p widths_24l widths_24c (addI .u64 pos_25 x48) offset_26 alreadyChecked_27 p52 i_29) (
    F71_J1 k again16 sl_21 cmp_22 update_23p update_23l update_23c widths_24p widths_24l widths_24c pos_25 offset_26 n_28 i_29)) (
   F71_J1 k again16 sl_21 cmp_22 update_23p update_23l update_23c widths_24p widths_24l widths_24c pos_25 offset_26 n_28 i_29)) (
  F71_J1 k again16 sl_21 cmp_22 update_23p update_23l update_23c widths_24p widths_24l widths_24c pos_25 offset_26 n_28 i_29)
theorem F71_L2_rule {k : Value → W} {again16 : Option Addr → Value → Option Addr → Nat → Nat → Option Addr → Nat → Nat → Int → Option Addr → Option Addr → Int → W} (I : Option Addr → Value → Option Addr → Nat → Nat → Option Addr → Nat → Nat → Int → Int → Option Addr → Option Addr → Int → W) (μ : Option Addr → Value → Option Addr → Nat → Nat → Option Addr → Nat → Nat → Int → Int → Option Addr → Option Addr → Int → World → Nat)
  (hr : ∀ (sl_21 : Option Addr) (cmp_22 : Value) (update_23p : Option Addr) (update_23l : Nat) (update_23c : Nat) (widths_24p : Option Addr) (widths_24l : Nat) (widths_24c : Nat) (pos_25 : Int) (offset_26 : Int) (alreadyChecked_27 : Option Addr) (n_28 : Option Addr) (i_29 : Int) (w : World), I sl_21 cmp_22 update_23p update_23l update_23c widths_24p widths_24l widths_24c pos_25 offset_26 alreadyChecked_27 n_28 i_29 w → F71_L2 k again16 (fun sl_21' cmp_22' update_23p' update_23l' update_23c' widths_24p' widths_24l' widths_24c' pos_25' offset_26' alreadyChecked_27' n_28' i_29' w' => I sl_21' cmp_22' update_23p' update_23l' update_23c' widths_24p' widths_24l' widths_24c' pos_25' offset_26' alreadyChecked_27' n_28' i_29' w' ∧ μ sl_21' cmp_22' update_23p' update_23l' update_23c' widths_24p' widths_24l' widths_24c' pos_25' offset_26' alreadyChecked_27' n_28' i_29' w' < μ sl_21 cmp_22 update_23p update_23l update_23c widths_24p widths_24l widths_24c pos_25 offset_26 alreadyChecked_27 n_28 i_29 w) sl_21 cmp_22 update_23p update_23l update_23c widths_24p widths_24l widths_24c pos_25 offset_26 alreadyChecked_27 n_28 i_29 w)
  {w : World} {sl_21 : Option Addr} {cmp_22 : Value} {update_23p : Option Addr} {update_23l : Nat} {update_23c : Nat} {widths_24p : Option Addr} {widths_24l : Nat} {widths_24c : Nat} {pos_25 : Int} {offset_26 : Int} {alreadyChecked_27 : Option Addr} {n_28 : Option Addr} {i_29 : Int} (h : I sl_21 cmp_22 update_23p update_23l update_23c widths_24p widths_24l widths_24c pos_25 offset_26 alreadyChecked_27 n_28 i_29 w) : Loop [.ptr, .any, .slice, .slice, (.int .u64), (.int .u8), .ptr, .ptr, (.int .u8)] (F71_L2 k again16) sl_21 cmp_22 update_23p update_23l update_23c widths_24p widths_24l widths_24c pos_25 offset_26 alreadyChecked_27 n_28 i_29 w :=
  Loop_intro (ts := [.ptr, .any, .slice, .slice, (.int .u64), (.int .u8), .ptr, .ptr, (.int .u8)]) (s := (sl_21, cmp_22, (update_23p, update_23l, update_23c), (widths_24p, widths_24l, widths_24c), pos_25, offset_26, alreadyChecked_27, n_28, i_29, ())) (fun s w => I s.1 s.2.1 s.2.2.1.1 s.2.2.1.2.1 s.2.2.1.2.2 s.2.2.2.1.1 s.2.2.2.1.2.1 s.2.2.2.1.2.2 s.2.2.2.2.1 s.2.2.2.2.2.1 s.2.2.2.2.2.2.1 s.2.2.2.2.2.2.2.1 s.2.2.2.2.2.2.2.2.1 w) (fun s w => μ s.1 s.2.1 s.2.2.1.1 s.2.2.1.2.1 s.2.2.1.2.2 s.2.2.2.1.1 s.2.2.2.1.2.1 s.2.2.2.1.2.2 s.2.2.2.2.1 s.2.2.2.2.2.1 s.2.2.2.2.2.2.1 s.2.2.2.2.2.2.2.1 s.2.2.2.2.2.2.2.2.1 w) h (fun s w h => hr s.1 s.2.1 s.2.2.1.1 s.2.2.1.2.1 s.2.2.1.2.2 s.2.2.2.1.1 s.2.2.2.1.2.1 s.2.2.2.1.2.2 s.2.2.2.2.1 s.2.2.2.2.2.1 s.2.2.2.2.2.2.1 s.2.2.2.2.2.2.2.1 s.2.2.2.2.2.2.2.2.1 w h)
def F71_L1 (k : Value → W) (again16 : Option Addr → Value → Option Addr → Nat → Nat → Option Addr → Nat → Nat → Int → Option Addr → Option Addr → Int → W) (sl_8 : Option Addr) (cmp_9 : Value) (update_10p : Option Addr) (update_10l : Nat) (update_10c : Nat) (widths_11p : Option Addr) (widths_11l : Nat) (widths_11c : Nat) (pos_12 : Int) (alreadyChecked_13 : Option Addr) (n_14 : Option Addr) (i_15 : Int) : W :=
 NN sl_8 fun a17 =>
 LoadT (.int .u8) (a17.add 1) fun x18 =>
 BIf (decide (i_15 ≤ x18)) (
  NN sl_8 fun a19 =>
  LoadT (.int .u8) (a19.add 1) fun x20 =>
  Loop [.ptr, .any, .slice, .slice, (.int .u64), (.int .u8), .ptr, .ptr, (.int .u8)] (F71_L2 k again16) sl_8 cmp_9 update_10p update_10l update_10c widths_11p widths_11l widths_11c pos_12 (subI .u8 x20 i_15) alreadyChecked_13 n_14 i_15) (
  NN n_14 fun a63 =>
  LoadT .slice a63 fun s64p s64l s64c =>
  NN s64p fun a65 =>
  Req (0 ≤ (0 : Int) ∧ (0 : Int) < ((s64l : Nat) : Int)) <|
  LoadT .ptr (a65.add ((0 : Int).toNat)) fun p66 =>
  k (.tuple #[.pointer p66, .int .u64 (addI .u64 pos_12 1)]))
theorem F71_L1_rule {k : Value → W} (I : Option Addr → Value → Option Addr → Nat → Nat → Option Addr → Nat → Nat → Int → Option Addr → Option Addr → Int → W) (μ : Option Addr → Value → Option Addr → Nat → Nat → Option Addr → Nat → Nat → Int → Option Addr → Option Addr → Int → World → Nat)
  (hr : ∀ (sl_8 : Option Addr) (cmp_9 : Value) (update_10p : Option Addr) (update_10l : Nat) (update_10c : Nat) (widths_11p : Option Addr) (widths_11l : Nat) (widths_11c : Nat) (pos_12 : Int) (alreadyChecked_13 : Option Addr) (n_14 : Option Addr) (i_15 : Int) (w : World), I sl_8 cmp_9 update_10p update_10l update_10c widths_11p widths_11l widths_11c pos_12 alreadyChecked_13 n_14 i_15 w → F71_L1 k (fun sl_8' cmp_9' update_10p' update_10l' update_10c' widths_11p' widths_11l' widths_11c' pos_12' alreadyChecked_13' n_14' i_15' w' => I sl_8' cmp_9' update_10p' update_10l' update_10c' widths_11p' widths_11l' widths_11c' pos_12' alreadyChecked_13' n_14' i_15' w' ∧ μ sl_8' cmp_9' update_10p' update_10l' update_10c' widths_11p' widths_11l' widths_11c' pos_12' alreadyChecked_13' n_14' i_15' w' < μ sl_8 cmp_9 update_10p update_10l update_10c widths_11p widths_11l widths_11c pos_12 alreadyChecked_13 n_14 i_15 w) sl_8 cmp_9 update_10p update_10l update_10c widths_11p widths_11l widths_11c pos_12 alreadyChecked_13 n_14 i_15 w)
  {w : World} {sl_8 : Option Addr} {cmp_9 : Value} {update_10p : Option Addr} {update_10l : Nat} {update_10c : Nat} {widths_11p : Option Addr} {widths_11l : Nat} {widths_11c : Nat} {pos_12 : Int} {alreadyChecked_13 : Option Addr} {n_14 : Option Addr} {i_15 : Int} (h : I sl_8 cmp_9 update_10p update_10l update_10c widths_11p widths_11l widths_11c pos_12 alreadyChecked_13 n_14 i_15 w) : Loop [.ptr, .any, .slice, .slice, (.int .u64), .ptr, .ptr, (.int .u8)] (F71_L1 k) sl_8 cmp_9 update_10p update_10l update_10c widths_11p widths_11l widths_11c pos_12 alreadyChecked_13 n_14 i_15 w :=
  Loop_intro (ts := [.ptr, .any, .slice, .slice, (.int .u64), .ptr, .ptr, (.int .u8)]) (s := (sl_8, cmp_9, (update_10p, update_10l, update_10c), (widths_11p, widths_11l, widths_11c), pos_12, alreadyChecked_13, n_14, i_15, ())) (fun s w => I s.1 s.2.1 s.2.2.1.1 s.2.2.1.2.1 s.2.2.1.2.2 s.2.2.2.1.1 s.2.2.2.1.2.1 s.2.2.2.1.2.2 s.2.2.2.2.1 s.2.2.2.2.2.1 s.2.2.2.2.2.2.1 s.2.2.2.2.2.2.2.1 w) (fun s w => μ s.1 s.2.1 s.2.2.1.1 s.2.2.1.2.1 s.2.2.1.2.2 s.2.2.2.1.1 s.2.2.2.1.2.1 s.2.2.2.1.2.2 s.2.2.2.2.1 s.2.2.2.2.2.1 s.2.2.2.2.2.2.1 s.2.2.2.2.2.2.2.1 w) h (fun s w h => hr s.1 s.2.1 s.2.2.1.1 s.2.2.1.2.1 s.2.2.1.2.2 s.2.2.2.1.1 s.2.2.2.1.2.1 s.2.2.2.1.2.2 s.2.2.2.2.1 s.2.2.2.2.2.1 s.2.2.2.2.2.2.1 s.2.2.2.2.2.2.2.1 w h)
def F71 (k : Value → W) (sl_1 : Option Addr) (cmp_2 : Value) (update_3p : Option Addr) (update_3l : Nat) (update_3c : Nat) (widths_4p : Option Addr) (widths_4l : Nat) (widths_4c : Nat) : W :=
 CallT Go.Proofs.Tryz.prog 75 [.pointer sl_1] (.s (.one (.int .u64))) fun x5 =>
 BIf (x5 == 0) (
  k (.tuple #[.pointer none, .int .u64 1])) (
  NN sl_1 fun a6 =>
  LoadT .ptr (a6.add 2) fun p7 =>
  Loop [.ptr, .any, .slice, .slice, (.int .u64), .ptr, .ptr, (.int .u8)] (F71_L1 k) sl_1 cmp_2 update_3p update_3l update_3c widths_4p widths_4l widths_4c 0 none p7 0)
theorem F71_eq (k : Value → W) (sl_1 : Option Addr) (cmp_2 : Value) (update_3p : Option Addr) (update_3l : Nat) (update_3c : Nat) (widths_4p : Option Addr) (widths_4l : Nat) (widths_4c : Nat) : compF Go.Proofs.Tryz.prog Go.Proofs.Tryz.f71 [(8, [(0, .ptr), (1, .any), (2, .slice), (3, .slice), (10, (.int .u64)), (12, .ptr), (13, .ptr), (14, (.int .u8))]), (11, [(0, .ptr), (1, .any), (2, .slice), (3, .slice), (10, (.int .u64)), (11, (.int .u8)), (12, .ptr), (13, .ptr), (14, (.int .u8))])] (Go.Proofs.Tryz.f71.body.getD .skip) [.pointer sl_1, cmp_2, .slice update_3p update_3l update_3c, .slice widths_4p widths_4l widths_4c] k = F71 k sl_1 cmp_2 update_3p update_3l update_3c widths_4p widths_4l widths_4c := by kernel_rfl
theorem F71_calls {sl_1 : Option Addr} {cmp_2 : Value} {update_3p : Option Addr} {update_3l : Nat} {update_3c : Nat} {widths_4p : Option Addr} {widths_4l : Nat} {widths_4c : Nat} {w : World} {R : Ending → World → Prop} (h : F71 (fun v w => R (.returned v) w) sl_1 cmp_2 update_3p update_3l update_3c widths_4p widths_4l widths_4c w) : Calls Go.Proofs.Tryz.prog 71 #[.pointer sl_1, cmp_2, .slice update_3p update_3l update_3c, .slice widths_4p widths_4l widths_4c] w R :=
  calls_of_compF noNum follows [(8, [(0, .ptr), (1, .any), (2, .slice), (3, .slice), (10, (.int .u64)), (12, .ptr), (13, .ptr), (14, (.int .u8))]), (11, [(0, .ptr), (1, .any), (2, .slice), (3, .slice), (10, (.int .u64)), (11, (.int .u8)), (12, .ptr), (13, .ptr), (14, (.int .u8))])] (f := 71) (fn := Go.Proofs.Tryz.f71) (body := Go.Proofs.Tryz.f71.body.getD .skip) (args := [.pointer sl_1, cmp_2, .slice update_3p update_3l update_3c, .slice widths_4p widths_4l widths_4c]) rfl rfl (Nat.le_of_ble_eq_true rfl) ((congrFun (F71_eq _ sl_1 cmp_2 update_3p update_3l update_3c widths_4p widths_4l widths_4c) w).mpr h)
theorem F71_call {sl_1 : Option Addr} {cmp_2 : Value} {update_3p : Option Addr} {update_3l : Nat} {update_3c : Nat} {widths_4p : Option Addr} {widths_4l : Nat} {widths_4c : Nat} {w : World} {g : Fn W (RTy.leaves (.tup [(.one .ptr), (.one (.int .u64))]))} (h : F71 (fun v => Back (.tup [(.one .ptr), (.one (.int .u64))]) g (.returned v)) sl_1 cmp_2 update_3p update_3l update_3c widths_4p widths_4l widths_4c w) : CallT Go.Proofs.Tryz.prog 71 [.pointer sl_1, cmp_2, .slice update_3p update_3l update_3c, .slice widths_4p widths_4l widths_4c] (.tup [(.one .ptr), (.one (.int .u64))]) g w := F71_calls h

/-! ## skip.generateLevel -/
def F79_L1 (k : Value → W) (again4 : Option Addr → Int → W) (sl_2 : Option Addr) (level_3 : Int) : W :=
 NN sl_2 fun a5 =>
 LoadT (.int .u8) a5 fun x6 =>
 BIf (decide (level_3 < (subI .u8 x6 1))) (
  NN sl_2 fun a7 =>
  LoadT (.int .u64) (a7.add 6) fun x8 =>
  NN sl_2 fun a9 =>
  Store1 (a9.add 6) (.int .u64 (addI .u64 (mulI .u64 x8 6364136223846793005) 1442695040888963407)) <|
  NN sl_2 fun a10 =>
  LoadT (.int .u64) (a10.add 6) fun x11 =>
  BIf ((shrI .u64 x11 63) == 1) (
   k (.int .u8 level_3)) (
   again4 sl_2 (addI .u8 level_3 1))) (
  k (.int .u8 level_3))
theorem F79_L1_rule {k : Value → W} (I : Option Addr → Int → W) (μ : Option Addr → Int → World → Nat)
  (hr : ∀ (sl_2 : Option Addr) (level_3 : Int) (w : World), I sl_2 level_3 w → F79_L1 k (fun sl_2' level_3' w' => I sl_2' level_3' w' ∧ μ sl_2' level_3' w' < μ sl_2 level_3 w) sl_2 level_3 w)
  {w : World} {sl_2 : Option Addr} {level_3 : Int} (h : I sl_2 level_3 w) : Loop [.ptr, (.int .u8)] (F79_L1 k) sl_2 level_3 w :=
  Loop_intro (ts := [.ptr, (.int .u8)]) (s := (sl_2, level_3, ())) (fun s w => I s.1 s.2.1 w) (fun s w => μ s.1 s.2.1 w) h (fun s w h => hr s.1 s.2.1 w h)
def F79 (k : Value → W) (sl_1 : Option Addr) : W :=
 Loop [.ptr, (.int .u8)] (F79_L1 k) sl_1 1
theorem F79_eq (k : Value → W) (sl_1 : Option Addr) : compF Go.Proofs.Tryz.prog Go.Proofs.Tryz.f79 [(3, [(0, .ptr), (3, (.int .u8))])] (Go.Proofs.Tryz.f79.body.getD .skip) [.pointer sl_1] k = F79 k sl_1 := by kernel_rfl
theorem F79_calls {sl_1 : Option Addr} {w : World} {R : Ending → World → Prop} (h : F79 (fun v w => R (.returned v) w) sl_1 w) : Calls Go.Proofs.Tryz.prog 79 #[.pointer sl_1] w R :=
  calls_of_compF noNum follows [(3, [(0, .ptr), (3, (.int .u8))])] (f := 79) (fn := Go.Proofs.Tryz.f79) (body := Go.Proofs.Tryz.f79.body.getD .skip) (args := [.pointer sl_1]) rfl rfl (Nat.le_of_ble_eq_true rfl) ((congrFun (F79_eq _ sl_1) w).mpr h)
theorem F79_call {sl_1 : Option Addr} {w : World} {g : Fn W (RTy.leaves (.s (.one (.int .u8))))} (h : F79 (fun v => Back (.s (.one (.int .u8))) g (.returned v)) sl_1 w) : CallT Go.Proofs.Tryz.prog 79 [.pointer sl_1] (.s (.one (.int .u8))) g w := F79_calls h

/-! ## skip.insertNode -/
def F77_J3 (k : Value → W) (again52 : Option Addr → Int → Option Addr → Nat → Nat → Option Addr → Nat → Nat → Int → Option Addr → Int → W) (sl_76 : Option Addr) (pos_77 : Int) (cache_78p : Option Addr) (cache_78l : Nat) (cache_78c : Nat) (posCache_79p : Option Addr) (posCache_79l : Nat) (posCache_79c : Nat) (nodeLevel_80 : Int) (nn_81 : Option Addr) (i_82 : Int) : W :=
 NN cache_78p fun a83 =>
 Req (0 ≤ i_82 ∧ i_82 < ((cache_78l : Nat) : Int)) <|
 LoadT .ptr (a83.add i_82.toNat) fun p84 =>
 NN p84 fun a85 =>
 LoadT .slice a85 fun s86p s86l s86c =>
 NN s86p fun a87 =>
 Req (0 ≤ i_82 ∧ i_82 < ((s86l : Nat) : Int)) <|
 LoadT .ptr (a87.add i_82.toNat) fun p88 =>
 BIf (!p88.isNone) (
  Drw <|
  NN cache_78p fun a89 =>
  Req (0 ≤ i_82 ∧ i_82 < ((cache_78l : Nat) : Int)) <|
  LoadT .ptr (a89.add i_82.toNat) fun p90 =>
  NN p90 fun a91 =>
  LoadT .slice (a91.add 1) fun s92p s92l s92c =>
  NN posCache_79p fun a93 =>
  Req (0 ≤ i_82 ∧ i_82 < ((posCache_79l : Nat) : Int)) <|
  LoadT (.int .u64) (a93.add i_82.toNat) fun x94 =>
  NN s92p fun a95 =>
  Req (0 ≤ i_82 ∧ i_82 < ((s92l : Nat) : Int)) <|
  Store1 (a95.add i_82.toNat) (.int .u64 (subI .u64 pos_77 x94)) <|
  again52 sl_76 pos_77 cache_78p cache_78l cache_78c posCache_79p posCache_79l posCache_79c nodeLevel_80 nn_81 (addI .u8 i_82 1)) (
  again52 sl_76 pos_77 cache_78p cache_78l cache_78c posCache_79p posCache_79l posCache_79c nodeLevel_80 nn_81 (addI .u8 i_82 1))
def F77_L3 (k : Value → W) (again104 : Option Addr → Option Addr → Nat → Nat → Int → W) (sl_101 : Option Addr) (cache_102p : Option Addr) (cache_102l : Nat) (cache_102c : Nat) (i_103 : Int) : W :=
 NN sl_101 fun a105 =>
 LoadT (.int .u8) (a105.add 1) fun x106 =>
 BIf (decide (i_103 < x106)) (
  NN cache_102p fun a107 =>
  Req (0 ≤ i_103 ∧ i_103 < ((cache_102l : Nat) : Int)) <|
  LoadT .ptr (a107.add i_103.toNat) fun p108 =>
  NN p108 fun a109 =>
  LoadT .slice a109 fun s110p s110l s110c =>
  NN s110p fun a111 =>
  Req (0 ≤ i_103 ∧ i_103 < ((s110l : Nat) : Int)) <|
  LoadT .ptr (a111.add i_103.toNat) fun p112 =>
  BIf p112.isNone (
   again104 sl_101 cache_102p cache_102l cache_102c (addI .u8 i_103 1)) (
   NN cache_102p fun a113 =>
   Req (0 ≤ i_103 ∧ i_103 < ((cache_102l : Nat) : Int)) <|
   LoadT .ptr (a113.add i_103.toNat) fun p114 =>
   NN p114 fun a115 =>
   LoadT .slice (a115.add 1) fun s116p s116l s116c =>
   NN s116p fun a117 =>
   Req (0 ≤ i_103 ∧ i_103 < ((s116l : Nat) : Int)) <|
   LoadT (.int .u64) (a117.add i_103.toNat) fun x118 =>
   NN s116p fun a119 =>
   Req (0 ≤ i_103 ∧ i_103 < ((s116l : Nat) : Int)) <|
   Store1 (a119.add i_103.toNat) (.int .u64 (addI .u64 x118 1)) <|
   again104 sl_101 cache_102p cache_102l cache_102c (addI .u8 i_103 1))) (
  k .nilIface)
theorem F77_L3_rule {k : Value → W} (I : Option Addr → Option Addr → Nat → Nat → Int → W) (μ : Option Addr → Option Addr → Nat → Nat → Int → World → Nat)
  (hr : ∀ (sl_101 : Option Addr) (cache_102p : Option Addr) (cache_102l : Nat) (cache_102c : Nat) (i_103 : Int) (w : World), I sl_101 cache_102p cache_102l cache_102c i_103 w → F77_L3 k (fun sl_101' cache_102p' cache_102l' cache_102c' i_103' w' => I sl_101' cache_102p' cache_102l' cache_102c' i_103' w' ∧ μ sl_101' cache_102p' cache_102l' cache_102c' i_103' w' < μ sl_101 cache_102p cache_102l cache_102c i_103 w) sl_101 cache_102p cache_102l cache_102c i_103 w)
  {w : World} {sl_101 : Option Addr} {cache_102p : Option Addr} {cache_102l : Nat} {cache_102c : Nat} {i_103 : Int} (h : I sl_101 cache_102p cache_102l cache_102c i_103 w) : Loop [.ptr, .slice, (.int .u8)] (F77_L3 k) sl_101 cache_102p cache_102l cache_102c i_103 w :=
  Loop_intro (ts := [.ptr, .slice, (.int .u8)]) (s := (sl_101, (cache_102p, cache_102l, cache_102c), i_103, ())) (fun s w => I s.1 s.2.1.1 s.2.1.2.1 s.2.1.2.2 s.2.2.1 w) (fun s w => μ s.1 s.2.1.1 s.2.1.2.1 s.2.1.2.2 s.2.2.1 w) h (fun s w h => hr s.1 s.2.1.1 s.2.1.2.1 s.2.1.2.2 s.2.2.1 w h)
def F77_L2 (k : Value → W) (again52 : Option Addr → Int → Option Addr → Nat → Nat → Option Addr → Nat → Nat → Int → Option Addr → Int → W) (sl_45 : Option Addr) (pos_46 : Int) (cache_47p : Option Addr) (cache_47l : Nat) (cache_47c : Nat) (posCache_48p : Option Addr) (posCache_48l : Nat) (posCache_48c : Nat) (nodeLevel_49 : Int) (nn_50 : Option Addr) (i_51 : Int) : W :=
 BIf (decide (i_51 < nodeLevel_49)) (
  Drw <|
  NN nn_50 fun a53 =>
  LoadT .slice a53 fun s54p s54l s54c =>
  NN cache_47p fun a55 =>
  Req (0 ≤ i_51 ∧ i_51 < ((cache_47l : Nat) : Int)) <|
  LoadT .ptr (a55.add i_51.toNat) fun p56 =>
  NN p56 fun a57 =>
  LoadT .slice a57 fun s58p s58l s58c =>
  NN s58p fun a59 =>
  Req (0 ≤ i_51 ∧ i_51 < ((s58l : Nat) : Int)) <|
  LoadT .ptr (a59.add i_51.toNat) fun p60 =>
  NN s54p fun a61 =>
  Req (0 ≤ i_51 ∧ i_51 < ((s54l : Nat) : Int)) <|
  Store1 (a61.add i_51.toNat) (.pointer p60) <|
  NN cache_47p fun a62 =>
  Req (0 ≤ i_51 ∧ i_51 < ((cache_47l : Nat) : Int)) <|
  LoadT .ptr (a62.add i_51.toNat) fun p63 =>
  NN p63 fun a64 =>
  LoadT .slice a64 fun s65p s65l s65c =>
  NN s65p fun a66 =>
  Req (0 ≤ i_51 ∧ i_51 < ((s65l : Nat) : Int)) <|
  Store1 (a66.add i_51.toNat) (.pointer nn_50) <|
  NN cache_47p fun a67 =>
  Req (0 ≤ i_51 ∧ i_51 < ((cache_47l : Nat) : Int)) <|
  LoadT .ptr (a67.add i_51.toNat) fun p68 =>
  NN p68 fun a69 =>
  LoadT .slice (a69.add 1) fun s70p s70l s70c =>
  NN s70p fun a71 =>
  Req (0 ≤ i_51 ∧ i_51 < ((s70l : Nat) : Int)) <|
  LoadT (.int .u64) (a71.add i_51.toNat) fun x72 =>
  BIf (x72 == 0) (
   NN nn_50 fun a73 =>
   LoadT .slice (a73.add 1) fun s74p s74l s74c =>
   NN s74p fun a75 =>
   Req (0 ≤ i_51 ∧ i_51 < ((s74l : Nat) : Int)) <|
   Store1 (a75.add i_51.toNat) (.int .u64 0) <|
   F77_J3 k again52 sl_45 pos_46 cache_47p cache_47l cache_47c posCache_48p posCache_48l posCache_48c nodeLevel_49 nn_50 i_51) (
   Drw <|
   NN nn_50 fun a96 =>
   LoadT .slice (a96.add 1) fun s97p s97l s97c =>
   NN posCache_48p fun a98 =>
   Req (0 ≤ i_51 ∧ i_51 < ((posCache_48l : Nat) : Int)) <|
   LoadT (.int .u64) (a98.add i_51.toNat) fun x99 =>
   NN s97p fun a100 =>
   Req (0 ≤ i_51 ∧ i_51 < ((s97l : Nat) : Int)) <|
   Store1 (a100.add i_51.toNat) (.int .u64 (subI .u64 (addI .u64 (addI .u64 x99 x72) 1) pos_46)) <|
   F77_J3 k again52 sl_45 pos_46 cache_47p cache_47l cache_47c posCache_48p posCache_48l posCache_48c nodeLevel_49 nn_50 i_51)) (
  Loop [.ptr, .slice, (.int .u8)] (F77_L3 k) sl_45 cache_47p cache_47l cache_47c nodeLevel_49)
theorem F77_L2_rule {k : Value → W} (I : Option Addr → Int → Option Addr → Nat → Nat → Option Addr → Nat → Nat → Int → Option Addr → Int → W) (μ : Option Addr → Int → Option Addr → Nat → Nat → Option Addr → Nat → Nat → Int → Option Addr → Int → World → Nat)
  (hr : ∀ (sl_45 : Option Addr) (pos_46 : Int) (cache_47p : Option Addr) (cache_47l : Nat) (cache_47c : Nat) (posCache_48p : Option Addr) (posCache_48l : Nat) (posCache_48c : Nat) (nodeLevel_49 : Int) (nn_50 : Option Addr) (i_51 : Int) (w : World), I sl_45 pos_46 cache_47p cache_47l cache_47c posCache_48p posCache_48l posCache_48c nodeLevel_49 nn_50 i_51 w → F77_L2 k (fun sl_45' pos_46' cache_47p' cache_47l' cache_47c' posCache_48p' posCache_48l' posCache_48c' nodeLevel_49' nn_50' i_51' w' => I sl_45' pos_46' cache_47p' cache_47l' cache_47c' posCache_48p' posCache_48l' posCache_48c' nodeLevel_49' nn_50' i_51' w' ∧ μ sl_45' pos_46' cache_47p' cache_47l' cache_47c' posCache_48p' posCache_48l' posCache_48c' nodeLevel_49' nn_50' i_51' w' < μ sl_45 pos_46 cache_47p cache_47l cache_47c posCache_48p posCache_48l posCache_48c nodeLevel_49 nn_50 i_51 w) sl_45 pos_46 cache_47p cache_47l cache_47c posCache_48p posCache_48l posCache_48c nodeLevel_49 nn_50 i_51 w)
  {w : World} {sl_45 : Option Addr} {pos_46 : Int} {cache_47p : Option Addr} {cache_47l : Nat} {cache_47c : Nat} {posCache_48p : Option Addr} {posCache_48l : Nat} {posCache_48c : Nat} {nodeLevel_49 : Int} {nn_50 : Option Addr} {i_51 : Int} (h : I sl_45 pos_46 cache_47p cache_47l cache_47c posCache_48p posCache_48l posCache_48c nodeLevel_49 nn_50 i_51 w) : Loop [.ptr, (.int .u64), .slice, .slice, (.int .u8), .ptr, (.int .u8)] (F77_L2 k) sl_45 pos_46 cache_47p cache_47l cache_47c posCache_48p posCache_48l posCache_48c nodeLevel_49 nn_50 i_51 w :=
  Loop_intro (ts := [.ptr, (.int .u64), .slice, .slice, (.int .u8), .ptr, (.int .u8)]) (s := (sl_45, pos_46, (cache_47p, cache_47l, cache_47c), (posCache_48p, posCache_48l, posCache_48c), nodeLevel_49, nn_50, i_51, ())) (fun s w => I s.1 s.2.1 s.2.2.1.1 s.2.2.1.2.1 s.2.2.1.2.2 s.2.2.2.1.1 s.2.2.2.1.2.1 s.2.2.2.1.2.2 s.2.2.2.2.1 s.2.2.2.2.2.1 s.2.2.2.2.2.2.1 w) (fun s w => μ s.1 s.2.1 s.2.2.1.1 s.2.2.1.2.1 s.2.2.1.2.2 s.2.2.2.1.1 s.2.2.2.1.2.1 s.2.2.2.1.2.2 s.2.2.2.2.1 s.2.2.2.2.2.1 s.2.2.2.2.2.2.1 w) h (fun s w h => hr s.1 s.2.1 s.2.2.1.1 s.2.2.1.2.1 s.2.2.1.2.2 s.2.2.2.1.1 s.2.2.2.1.2.1 s.2.2.2.1.2.2 s.2.2.2.2.1 s.2.2.2.2.2.1 s.2.2.2.2.2.2.1 w h)
def F77_J2 (k : Value → W) (sl_38 : Option Addr) (cmp_39 : Value) (pos_40 : Int) (cache_41p : Option Addr) (cache_41l : Nat) (cache_41c : Nat) (posCache_42p : Option Addr) (posCache_42l : Nat) (posCache_42c : Nat) (nodeLevel_43 : Int) : W :=
 CallT Go.Proofs.Tryz.prog 33 [cmp_39, .int .u8 nodeLevel_43] (.s (.one .ptr)) fun p44 =>
 Loop [.ptr, (.int .u64), .slice, .slice, (.int .u8), .ptr, (.int .u8)] (F77_L2 k) sl_38 pos_40 cache_41p cache_41l cache_41c posCache_42p posCache_42l posCache_42c nodeLevel_43 p44 0
def F77_L1 (k : Value → W) (again33 : Option Addr → Value → Int → Option Addr → Nat → Nat → Option Addr → Nat → Nat → Int → Int → W) (sl_26 : Option Addr) (cmp_27 : Value) (pos_28 : Int) (cache_29p : Option Addr) (cache_29l : Nat) (cache_29c : Nat) (posCache_30p : Option Addr) (posCache_30l : Nat) (posCache_30c : Nat) (nodeLevel_31 : Int) (i_32 : Int) : W :=
 BIf (decide (i_32 < nodeLevel_31)) (
  NN sl_26 fun a34 =>
  LoadT .ptr (a34.add 2) fun p35 =>
  NN cache_29p fun a36 =>
  Req (0 ≤ i_32 ∧ i_32 < ((cache_29l : Nat) : Int)) <|
  Store1 (a36.add i_32.toNat) (.pointer p35) <|
  again33 sl_26 cmp_27 pos_28 cache_29p cache_29l cache_29c posCache_30p posCache_30l posCache_30c nodeLevel_31 (addI .u8 i_32 1)) (
  NN sl_26 fun a37 =>
  Store1 (a37.add 1) (.int .u8 nodeLevel_31) <|
  F77_J2 k sl_26 cmp_27 pos_28 cache_29p cache_29l cache_29c posCache_30p posCache_30l posCache_30c nodeLevel_31)
theorem F77_L1_rule {k : Value → W} (I : Option Addr → Value → Int → Option Addr → Nat → Nat → Option Addr → Nat → Nat → Int → Int → W) (μ : Option Addr → Value → Int → Option Addr → Nat → Nat → Option Addr → Nat → Nat → Int → Int → World → Nat)
  (hr : ∀ (sl_26 : Option Addr) (cmp_27 : Value) (pos_28 : Int) (cache_29p : Option Addr) (cache_29l : Nat) (cache_29c : Nat) (posCache_30p : Option Addr) (posCache_30l : Nat) (posCache_30c : Nat) (nodeLevel_31 : Int) (i_32 : Int) (w : World), I sl_26 cmp_27 pos_28 cache_29p cache_29l cache_29c posCache_30p posCache_30l posCache_30c nodeLevel_31 i_32 w → F77_L1 k (fun sl_26' cmp_27' pos_28' cache_29p' cache_29l' cache_29c' posCache_30p' posCache_30l' posCache_30c' nodeLevel_31' i_32' w' => I sl_26' cmp_27' pos_28' cache_29p' cache_29l' cache_29c' posCache_30p' posCache_30l' posCache_30c' nodeLevel_31' i_32' w' ∧ μ sl_26' cmp_27' pos_28' cache_29p' cache_29l' cache_29c' posCache_30p' posCache_30l' posCache_30c' nodeLevel_31' i_32' w' < μ sl_26 cmp_27 pos_28 cache_29p cache_29l cache_29c posCache_30p posCache_30l posCache_30c nodeLevel_31 i_32 w) sl_26 cmp_27 pos_28 cache_29p cache_29l cache_29c posCache_30p posCache_30l posCache_30c nodeLevel_31 i_32 w)
  {w : World} {sl_26 : Option Addr} {cmp_27 : Value} {pos_28 : Int} {cache_29p : Option Addr} {cache_29l : Nat} {cache_29c : Nat} {posCache_30p : Option Addr} {posCache_30l : Nat} {posCache_30c : Nat} {nodeLevel_31 : Int} {i_32 : Int} (h : I sl_26 cmp_27 pos_28 cache_29p cache_29l cache_29c posCache_30p posCache_30l posCache_30c nodeLevel_31 i_32 w) : Loop [.ptr, .any, (.int .u64), .slice, .slice, (.int .u8), (.int .u8)] (F77_L1 k) sl_26 cmp_27 pos_28 cache_29p cache_29l cache_29c posCache_30p posCache_30l posCache_30c nodeLevel_31 i_32 w :=
  Loop_intro (ts := [.ptr, .any, (.int .u64), .slice, .slice, (.int .u8), (.int .u8)]) (s := (sl_26, cmp_27, pos_28, (cache_29p, cache_29l, cache_29c), (posCache_30p, posCache_30l, posCache_30c), nodeLevel_31, i_32, ())) (fun s w => I s.1 s.2.1 s.2.2.1 s.2.2.2.1.1 s.2.2.2.1.2.1 s.2.2.2.1.2.2 s.2.2.2.2.1.1 s.2.2.2.2.1.2.1 s.2.2.2.2.1.2.2 s.2.2.2.2.2.1 s.2.2.2.2.2.2.1 w) (fun s w => μ s.1 s.2.1 s.2.2.1 s.2.2.2.1.1 s.2.2.2.1.2.1 s.2.2.2.1.2.2 s.2.2.2.2.1.1 s.2.2.2.2.1.2.1 s.2.2.2.2.1.2.2 s.2.2.2.2.2.1 s.2.2.2.2.2.2.1 w) h (fun s w h => hr s.1 s.2.1 s.2.2.1 s.2.2.2.1.1 s.2.2.2.1.2.1 s.2.2.2.1.2.2 s.2.2.2.2.1.1 s.2.2.2.2.1.2.1 s.2.2.2.2.1.2.2 s.2.2.2.2.2.1 s.2.2.2.2.2.2.1 w h)
def F77_J1 (k : Value → W) (sl_9 : Option Addr) (n_10 : Option Addr) (cmp_11 : Value) (pos_12 : Int) (cache_13p : Option Addr) (cache_13l : Nat) (cache_13c : Nat) (posCache_14p : Option Addr) (posCache_14l : Nat) (posCache_14c : Nat) (b15 : Bool) : W :=
 BIf b15 (
  NN n_10 fun a16 =>
  LoadT .any (a16.add 2) fun v17 =>
  NN n_10 fun a18 =>
  Req (oneC cmp_11 = true) <|
  Store1 (a18.add 2) cmp_11 <|
  k v17) (
  NN sl_9 fun a19 =>
  LoadT (.int .u64) (a19.add 3) fun x20 =>
  Store1 (a19.add 3) (.int .u64 (addI .u64 x20 1)) <|
  CallT Go.Proofs.Tryz.prog 79 [.pointer sl_9] (.s (.one (.int .u8))) fun x21 =>
  NN sl_9 fun a22 =>
  LoadT (.int .u8) (a22.add 1) fun x23 =>
  BIf (decide (x21 > x23)) (
   NN sl_9 fun a24 =>
   LoadT (.int .u8) (a24.add 1) fun x25 =>
   Loop [.ptr, .any, (.int .u64), .slice, .slice, (.int .u8), (.int .u8)] (F77_L1 k) sl_9 cmp_11 pos_12 cache_13p cache_13l cache_13c posCache_14p posCache_14l posCache_14c x21 x25) (
   F77_J2 k sl_9 cmp_11 pos_12 cache_13p cache_13l cache_13c posCache_14p posCache_14l posCache_14c x21))
def F77 (k : Value → W) (sl_1 : Option Addr) (n_2 : Option Addr) (cmp_3 : Value) (pos_4 : Int) (cache_5p : Option Addr) (cache_5l : Nat) (cache_5c : Nat) (posCache_6p : Option Addr) (posCache_6l : Nat) (posCache_6c : Nat) (allowDuplicate_7 : Bool) : W :=
 BIf (!allowDuplicate_7) (
  BIf (!n_2.isNone) (
   CallT Go.Proofs.Tryz.prog 72 [.pointer n_2, cmp_3] (.s (.one (.int .i64))) fun x8 =>
   F77_J1 k sl_1 n_2 cmp_3 pos_4 cache_5p cache_5l cache_5c posCache_6p posCache_6l posCache_6c (x8 == 0)) (
   F77_J1 k sl_1 n_2 cmp_3 pos_4 cache_5p cache_5l cache_5c posCache_6p posCache_6l posCache_6c false)) (
  F77_J1 k sl_1 n_2 cmp_3 pos_4 cache_5p cache_5l cache_5c posCache_6p posCache_6l posCache_6c false)
theorem F77_eq (k : Value → W) (sl_1 : Option Addr) (n_2 : Option Addr) (cmp_3 : Value) (pos_4 : Int) (cache_5p : Option Addr) (cache_5l : Nat) (cache_5c : Nat) (posCache_6p : Option Addr) (posCache_6l : Nat) (posCache_6c : Nat) (allowDuplicate_7 : Bool) : compF Go.Proofs.Tryz.prog Go.Proofs.Tryz.f77 [(9, [(0, .ptr), (2, .any), (3, (.int .u64)), (4, .slice), (5, .slice), (16, (.int .u8)), (17, (.int .u8))]), (15, [(0, .ptr), (3, (.int .u64)), (4, .slice), (5, .slice), (16, (.int .u8)), (18, .ptr), (19, (.int .u8))]), (26, [(0, .ptr), (4, .slice), (21, (.int .u8))])] (Go.Proofs.Tryz.f77.body.getD .skip) [.pointer sl_1, .pointer n_2, cmp_3, .int .u64 pos_4, .slice cache_5p cache_5l cache_5c, .slice posCache_6p posCache_6l posCache_6c, .bool allowDuplicate_7] k = F77 k sl_1 n_2 cmp_3 pos_4 cache_5p cache_5l cache_5c posCache_6p posCache_6l posCache_6c allowDuplicate_7 := by kernel_rfl
theorem F77_calls {sl_1 : Option Addr} {n_2 : Option Addr} {cmp_3 : Value} {pos_4 : Int} {cache_5p : Option Addr} {cache_5l : Nat} {cache_5c : Nat} {posCache_6p : Option Addr} {posCache_6l : Nat} {posCache_6c : Nat} {allowDuplicate_7 : Bool} {w : World} {R : Ending → World → Prop} (h : F77 (fun v w => R (.returned v) w) sl_1 n_2 cmp_3 pos_4 cache_5p cache_5l cache_5c posCache_6p posCache_6l posCache_6c allowDuplicate_7 w) : Calls Go.Proofs.Tryz.prog 77 #[.pointer sl_1, .pointer n_2, cmp_3, .int .u64 pos_4, .slice cache_5p cache_5l cache_5c, .slice posCache_6p posCache_6l posCache_6c, .bool allowDuplicate_7] w R :=
  calls_of_compF noNum follows [(9, [(0, .ptr), (2, .any), (3, (.int .u64)), (4, .slice), (5, .slice), (16, (.int .u8)), (17, (.int .u8))]), (15, [(0, .ptr), (3, (.int .u64)), (4, .slice), (5, .slice), (16, (.int .u8)), (18, .ptr), (19, (.int .u8))]), (26, [(0, .ptr), (4, .slice), (21, (.int .u8))])] (f := 77) (fn := Go.Proofs.Tryz.f77) (body := Go.Proofs.Tryz.f77.body.getD .skip) (args := [.pointer sl_1, .pointer n_2, cmp_3, .int .u64 pos_4, .slice cache_5p cache_5l cache_5c, .slice posCache_6p posCache_6l posCache_6c, .bool allowDuplicate_7]) rfl rfl (Nat.le_of_ble_eq_true rfl) ((congrFun (F77_eq _ sl_1 n_2 cmp_3 pos_4 cache_5p cache_5l cache_5c posCache_6p posCache_6l posCache_6c allowDuplicate_7) w).mpr h)
theorem F77_call {sl_1 : Option Addr} {n_2 : Option Addr} {cmp_3 : Value} {pos_4 : Int} {cache_5p : Option Addr} {cache_5l : Nat} {cache_5c : Nat} {posCache_6p : Option Addr} {posCache_6l : Nat} {posCache_6c : Nat} {allowDuplicate_7 : Bool} {w : World} {g : Fn W (RTy.leaves (.s (.one .any)))} (h : F77 (fun v => Back (.s (.one .any)) g (.returned v)) sl_1 n_2 cmp_3 pos_4 cache_5p cache_5l cache_5c posCache_6p posCache_6l posCache_6c allowDuplicate_7 w) : CallT Go.Proofs.Tryz.prog 77 [.pointer sl_1, .pointer n_2, cmp_3, .int .u64 pos_4, .slice cache_5p cache_5l cache_5c, .slice posCache_6p posCache_6l posCache_6c, .bool allowDuplicate_7] (.s (.one .any)) g w := F77_calls h

/-! ## skip.SkipList).insert -/
def F73 (k : Value → W) (sl_1 : Option Addr) (cmp_2 : Value) : W :=
 Drw <|
 NN sl_1 fun a3 =>
 LoadT .slice (a3.add 4) fun s4p s4l s4c =>
 NN sl_1 fun a5 =>
 LoadT .slice (a5.add 5) fun s6p s6l s6c =>
 CallT Go.Proofs.Tryz.prog 71 [.pointer sl_1, cmp_2, .slice s4p s4l s4c, .slice s6p s6l s6c] (.tup [(.one .ptr), (.one (.int .u64))]) fun p7 x8 =>
 Drw <|
 NN sl_1 fun a9 =>
 LoadT .slice (a9.add 4) fun s10p s10l s10c =>
 NN sl_1 fun a11 =>
 LoadT .slice (a11.add 5) fun s12p s12l s12c =>
 CallT Go.Proofs.Tryz.prog 77 [.pointer sl_1, .pointer p7, cmp_2, .int .u64 x8, .slice s10p s10l s10c, .slice s12p s12l s12c, .bool false] (.s (.one .any)) fun v13 =>
 k v13
theorem F73_eq (k : Value → W) (sl_1 : Option Addr) (cmp_2 : Value) : compF Go.Proofs.Tryz.prog Go.Proofs.Tryz.f73 [] (Go.Proofs.Tryz.f73.body.getD .skip) [.pointer sl_1, cmp_2] k = F73 k sl_1 cmp_2 := by kernel_rfl
theorem F73_calls {sl_1 : Option Addr} {cmp_2 : Value} {w : World} {R : Ending → World → Prop} (h : F73 (fun v w => R (.returned v) w) sl_1 cmp_2 w) : Calls Go.Proofs.Tryz.prog 73 #[.pointer sl_1, cmp_2] w R :=
  calls_of_compF noNum follows [] (f := 73) (fn := Go.Proofs.Tryz.f73) (body := Go.Proofs.Tryz.f73.body.getD .skip) (args := [.pointer sl_1, cmp_2]) rfl rfl (Nat.le_of_ble_eq_true rfl) ((congrFun (F73_eq _ sl_1 cmp_2) w).mpr h)
theorem F73_call {sl_1 : Option Addr} {cmp_2 : Value} {w : World} {g : Fn W (RTy.leaves (.s (.one .any)))} (h : F73 (fun v => Back (.s (.one .any)) g (.returned v)) sl_1 cmp_2 w) : CallT Go.Proofs.Tryz.prog 73 [.pointer sl_1, cmp_2] (.s (.one .any)) g w := F73_calls h

/-! ## skip.SkipList).Insert -/
def F65_L1 (k : Value → W) (again9 : Option Addr → Option Addr → Nat → Nat → Option Addr → Nat → Nat → Int → Int → W) (sl_4 : Option Addr) (overwritten_5p : Option Addr) (overwritten_5l : Nat) (overwritten_5c : Nat) (s6p : Option Addr) (s6l : Nat) (s6c : Nat) (x7 : Int) (x8 : Int) : W :=
 BIf (decide (x8 < x7)) (
  NN s6p fun a10 =>
  Req (0 ≤ x8 ∧ x8 < ((s6l : Nat) : Int)) <|
  LoadT .any (a10.add x8.toNat) fun v11 =>
  CallT Go.Proofs.Tryz.prog 73 [.pointer sl_4, v11] (.s (.one .any)) fun v12 =>
  RawT Go.Proofs.Tryz.prog (Instr.buildSlice 141 1 [(0, v12)].toArray) (.s (.one .slice)) fun s13p s13l s13c =>
  NextT Go.Proofs.Tryz.prog (builtin .append #[141, 141] 141 [false, false].toArray [.slice overwritten_5p overwritten_5l overwritten_5c, .slice s13p s13l s13c].toArray) (.s (.one .slice)) fun s14p s14l s14c =>
  again9 sl_4 s14p s14l s14c s6p s6l s6c x7 (addI .i64 x8 1)) (
  k (.slice overwritten_5p overwritten_5l overwritten_5c))
theorem F65_L1_rule {k : Value → W} (I : Option Addr → Option Addr → Nat → Nat → Option Addr → Nat → Nat → Int → Int → W) (μ : Option Addr → Option Addr → Nat → Nat → Option Addr → Nat → Nat → Int → Int → World → Nat)
  (hr : ∀ (sl_4 : Option Addr) (overwritten_5p : Option Addr) (overwritten_5l : Nat) (overwritten_5c : Nat) (s6p : Option Addr) (s6l : Nat) (s6c : Nat) (x7 : Int) (x8 : Int) (w : World), I sl_4 overwritten_5p overwritten_5l overwritten_5c s6p s6l s6c x7 x8 w → F65_L1 k (fun sl_4' overwritten_5p' overwritten_5l' overwritten_5c' s6p' s6l' s6c' x7' x8' w' => I sl_4' overwritten_5p' overwritten_5l' overwritten_5c' s6p' s6l' s6c' x7' x8' w' ∧ μ sl_4' overwritten_5p' overwritten_5l' overwritten_5c' s6p' s6l' s6c' x7' x8' w' < μ sl_4 overwritten_5p overwritten_5l overwritten_5c s6p s6l s6c x7 x8 w) sl_4 overwritten_5p overwritten_5l overwritten_5c s6p s6l s6c x7 x8 w)
  {w : World} {sl_4 : Option Addr} {overwritten_5p : Option Addr} {overwritten_5l : Nat} {overwritten_5c : Nat} {s6p : Option Addr} {s6l : Nat} {s6c : Nat} {x7 : Int} {x8 : Int} (h : I sl_4 overwritten_5p overwritten_5l overwritten_5c s6p s6l s6c x7 x8 w) : Loop [.ptr, .slice, .slice, (.int .i64), (.int .i64)] (F65_L1 k) sl_4 overwritten_5p overwritten_5l overwritten_5c s6p s6l s6c x7 x8 w :=
  Loop_intro (ts := [.ptr, .slice, .slice, (.int .i64), (.int .i64)]) (s := (sl_4, (overwritten_5p, overwritten_5l, overwritten_5c), (s6p, s6l, s6c), x7, x8, ())) (fun s w => I s.1 s.2.1.1 s.2.1.2.1 s.2.1.2.2 s.2.2.1.1 s.2.2.1.2.1 s.2.2.1.2.2 s.2.2.2.1 s.2.2.2.2.1 w) (fun s w => μ s.1 s.2.1.1 s.2.1.2.1 s.2.1.2.2 s.2.2.1.1 s.2.2.1.2.1 s.2.2.1.2.2 s.2.2.2.1 s.2.2.2.2.1 w) h (fun s w h => hr s.1 s.2.1.1 s.2.1.2.1 s.2.1.2.2 s.2.2.1.1 s.2.2.1.2.1 s.2.2.1.2.2 s.2.2.2.1 s.2.2.2.2.1 w h)
def F65 (k : Value → W) (sl_1 : Option Addr) (comparators_2p : Option Addr) (comparators_2l : Nat) (comparators_2c : Nat) : W :=
 RawT Go.Proofs.Tryz.prog (Instr.makeSlice 141 (.int .i64 0) (.int .i64 ((comparators_2l : Nat) : Int))) (.s (.one .slice)) fun s3p s3l s3c =>
 Loop [.ptr, .slice, .slice, (.int .i64), (.int .i64)] (F65_L1 k) sl_1 s3p s3l s3c comparators_2p comparators_2l comparators_2c ((comparators_2l : Nat) : Int) 0
theorem F65_eq (k : Value → W) (sl_1 : Option Addr) (comparators_2p : Option Addr) (comparators_2l : Nat) (comparators_2c : Nat) : compF Go.Proofs.Tryz.prog Go.Proofs.Tryz.f65 [(3, [(0, .ptr), (5, .slice), (11, .slice), (12, (.int .i64)), (13, (.int .i64))])] (Go.Proofs.Tryz.f65.body.getD .skip) [.pointer sl_1, .slice comparators_2p comparators_2l comparators_2c] k = F65 k sl_1 comparators_2p comparators_2l comparators_2c := by kernel_rfl
theorem F65_calls {sl_1 : Option Addr} {comparators_2p : Option Addr} {comparators_2l : Nat} {comparators_2c : Nat} {w : World} {R : Ending → World → Prop} (h : F65 (fun v w => R (.returned v) w) sl_1 comparators_2p comparators_2l comparators_2c w) : Calls Go.Proofs.Tryz.prog 65 #[.pointer sl_1, .slice comparators_2p comparators_2l comparators_2c] w R :=
  calls_of_compF noNum follows [(3, [(0, .ptr), (5, .slice), (11, .slice), (12, (.int .i64)), (13, (.int .i64))])] (f := 65) (fn := Go.Proofs.Tryz.f65) (body := Go.Proofs.Tryz.f65.body.getD .skip) (args := [.pointer sl_1, .slice comparators_2p comparators_2l comparators_2c]) rfl rfl (Nat.le_of_ble_eq_true rfl) ((congrFun (F65_eq _ sl_1 comparators_2p comparators_2l comparators_2c) w).mpr h)
theorem F65_call {sl_1 : Option Addr} {comparators_2p : Option Addr} {comparators_2l : Nat} {comparators_2c : Nat} {w : World} {g : Fn W (RTy.leaves (.s (.one .slice)))} (h : F65 (fun v => Back (.s (.one .slice)) g (.returned v)) sl_1 comparators_2p comparators_2l comparators_2c w) : CallT Go.Proofs.Tryz.prog 65 [.pointer sl_1, .slice comparators_2p comparators_2l comparators_2c] (.s (.one .slice)) g w := F65_calls h

/-! ## skip.SkipList).Get -/
def F63_J1 (k : Value → W) (again9 : Option Addr → Option Addr → Nat → Nat → Option Addr → Nat → Nat → Int → Int → W) (sl_15 : Option Addr) (result_16p : Option Addr) (result_16l : Nat) (result_16c : Nat) (n_17 : Option Addr) (s18p : Option Addr) (s18l : Nat) (s18c : Nat) (x19 : Int) (x20 : Int) (b21 : Bool) : W :=
 BIf b21 (
  NN n_17 fun a22 =>
  LoadT .any (a22.add 2) fun v23 =>
  RawT Go.Proofs.Tryz.prog (Instr.buildSlice 141 1 [(0, v23)].toArray) (.s (.one .slice)) fun s24p s24l s24c =>
  NextT Go.Proofs.Tryz.prog (builtin .append #[141, 141] 141 [false, false].toArray [.slice result_16p result_16l result_16c, .slice s24p s24l s24c].toArray) (.s (.one .slice)) fun s25p s25l s25c =>
  again9 sl_15 s25p s25l s25c s18p s18l s18c x19 (addI .i64 x20 1)) (
  RawT Go.Proofs.Tryz.prog (Instr.buildSlice 141 1 [(0, .nilIface)].toArray) (.s (.one .slice)) fun s26p s26l s26c =>
  NextT Go.Proofs.Tryz.prog (builtin .append #[141, 141] 141 [false, false].toArray [.slice result_16p result_16l result_16c, .slice s26p s26l s26c].toArray) (.s (.one .slice)) fun s27p s27l s27c =>
  again9 sl_15 s27p s27l s27c s18p s18l s18c x19 (addI .i64 x20 1))
def F63_L1 (k : Value → W) (again9 : Option Addr → Option Addr → Nat → Nat → Option Addr → Nat → Nat → Int → Int → W) (sl_4 : Option Addr) (result_5p : Option Addr) (result_5l : Nat) (result_5c : Nat) (s6p : Option Addr) (s6l : Nat) (s6c : Nat) (x7 : Int) (x8 : Int) : W :=
 BIf (decide (x8 < x7)) (
  NN s6p fun a10 =>
  Req (0 ≤ x8 ∧ x8 < ((s6l : Nat) : Int)) <|
  LoadT .any (a10.add x8.toNat) fun v11 =>
  CallT Go.Proofs.Tryz.prog 71 [.pointer sl_4, v11, .slice none 0 0, .slice none 0 0] (.tup [(.one .ptr), (.one (.int .u64))]) fun p12 x13 =>
  BIf (!p12.isNone) (
   CallT Go.Proofs.Tryz.prog 72 [.pointer p12, v11] (.s (.one (.int .i64))) fun x14 =>
   F63_J1 k again9 sl_4 result_5p result_5l result_5c p12 s6p s6l s6c x7 x8 (x14 == 0)) (
   F63_J1 k again9 sl_4 result_5p result_5l result_5c p12 s6p s6l s6c x7 x8 false)) (
  k (.slice result_5p result_5l result_5c))
theorem F63_L1_rule {k : Value → W} (I : Option Addr → Option Addr → Nat → Nat → Option Addr → Nat → Nat → Int → Int → W) (μ : Option Addr → Option Addr → Nat → Nat → Option Addr → Nat → Nat → Int → Int → World → Nat)
  (hr : ∀ (sl_4 : Option Addr) (result_5p : Option Addr) (result_5l : Nat) (result_5c : Nat) (s6p : Option Addr) (s6l : Nat) (s6c : Nat) (x7 : Int) (x8 : Int) (w : World), I sl_4 result_5p result_5l result_5c s6p s6l s6c x7 x8 w → F63_L1 k (fun sl_4' result_5p' result_5l' result_5c' s6p' s6l' s6c' x7' x8' w' => I sl_4' result_5p' result_5l' result_5c' s6p' s6l' s6c' x7' x8' w' ∧ μ sl_4' result_5p' result_5l' result_5c' s6p' s6l' s6c' x7' x8' w' < μ sl_4 result_5p result_5l result_5c s6p s6l s6c x7 x8 w) sl_4 result_5p result_5l result_5c s6p s6l s6c x7 x8 w)
  {w : World} {sl_4 : Option Addr} {result_5p : Option Addr} {result_5l : Nat} {result_5c : Nat} {s6p : Option Addr} {s6l : Nat} {s6c : Nat} {x7 : Int} {x8 : Int} (h : I sl_4 result_5p result_5l result_5c s6p s6l s6c x7 x8 w) : Loop [.ptr, .slice, .slice, (.int .i64), (.int .i64)] (F63_L1 k) sl_4 result_5p result_5l result_5c s6p s6l s6c x7 x8 w :=
  Loop_intro (ts := [.ptr, .slice, .slice, (.int .i64), (.int .i64)]) (s := (sl_4, (result_5p, result_5l, result_5c), (s6p, s6l, s6c), x7, x8, ())) (fun s w => I s.1 s.2.1.1 s.2.1.2.1 s.2.1.2.2 s.2.2.1.1 s.2.2.1.2.1 s.2.2.1.2.2 s.2.2.2.1 s.2.2.2.2.1 w) (fun s w => μ s.1 s.2.1.1 s.2.1.2.1 s.2.1.2.2 s.2.2.1.1 s.2.2.1.2.1 s.2.2.1.2.2 s.2.2.2.1 s.2.2.2.2.1 w) h (fun s w h => hr s.1 s.2.1.1 s.2.1.2.1 s.2.1.2.2 s.2.2.1.1 s.2.2.1.2.1 s.2.2.1.2.2 s.2.2.2.1 s.2.2.2.2.1 w h)
def F63 (k : Value → W) (sl_1 : Option Addr) (comparators_2p : Option Addr) (comparators_2l : Nat) (comparators_2c : Nat) : W :=
 RawT Go.Proofs.Tryz.prog (Instr.makeSlice 141 (.int .i64 0) (.int .i64 ((comparators_2l : Nat) : Int))) (.s (.one .slice)) fun s3p s3l s3c =>
 Loop [.ptr, .slice, .slice, (.int .i64), (.int .i64)] (F63_L1 k) sl_1 s3p s3l s3c comparators_2p comparators_2l comparators_2c ((comparators_2l : Nat) : Int) 0
theorem F63_eq (k : Value → W) (sl_1 : Option Addr) (comparators_2p : Option Addr) (comparators_2l : Nat) (comparators_2c : Nat) : compF Go.Proofs.Tryz.prog Go.Proofs.Tryz.f63 [(4, [(0, .ptr), (5, .slice), (12, .slice), (13, (.int .i64)), (14, (.int .i64))])] (Go.Proofs.Tryz.f63.body.getD .skip) [.pointer sl_1, .slice comparators_2p comparators_2l comparators_2c] k = F63 k sl_1 comparators_2p comparators_2l comparators_2c := by kernel_rfl
theorem F63_calls {sl_1 : Option Addr} {comparators_2p : Option Addr} {comparators_2l : Nat} {comparators_2c : Nat} {w : World} {R : Ending → World → Prop} (h : F63 (fun v w => R (.returned v) w) sl_1 comparators_2p comparators_2l comparators_2c w) : Calls Go.Proofs.Tryz.prog 63 #[.pointer sl_1, .slice comparators_2p comparators_2l comparators_2c] w R :=
  calls_of_compF noNum follows [(4, [(0, .ptr), (5, .slice), (12, .slice), (13, (.int .i64)), (14, (.int .i64))])] (f := 63) (fn := Go.Proofs.Tryz.f63) (body := Go.Proofs.Tryz.f63.body.getD .skip) (args := [.pointer sl_1, .slice comparators_2p comparators_2l comparators_2c]) rfl rfl (Nat.le_of_ble_eq_true rfl) ((congrFun (F63_eq _ sl_1 comparators_2p comparators_2l comparators_2c) w).mpr h)
theorem F63_call {sl_1 : Option Addr} {comparators_2p : Option Addr} {comparators_2l : Nat} {comparators_2c : Nat} {w : World} {g : Fn W (RTy.leaves (.s (.one .slice)))} (h : F63 (fun v => Back (.s (.one .slice)) g (.returned v)) sl_1 comparators_2p comparators_2l comparators_2c w) : CallT Go.Proofs.Tryz.prog 63 [.pointer sl_1, .slice comparators_2p comparators_2l comparators_2c] (.s (.one .slice)) g w := F63_calls h

/-! ## skip.SkipList).delete -/
def F76_J1 (k : Value → W) (n_90 : Option Addr) : W :=
 NN n_90 fun a91 =>
 LoadT .any (a91.add 2) fun v92 =>
 k v92
def F76_L2 (k : Value → W) (again70 : Option Addr → Option Addr → W) (sl_68 : Option Addr) (n_69 : Option Addr) : W :=
 Drw <|
 NN sl_68 fun a71 =>
 LoadT (.int .u8) (a71.add 1) fun x72 =>
 BIf (decide (x72 > 1)) (
  NN sl_68 fun a73 =>
  LoadT .ptr (a73.add 2) fun p74 =>
  NN p74 fun a75 =>
  LoadT .slice a75 fun s76p s76l s76c =>
  NN sl_68 fun a77 =>
  LoadT (.int .u8) (a77.add 1) fun x78 =>
  NN s76p fun a79 =>
  Req (0 ≤ subI .u8 x78 1 ∧ subI .u8 x78 1 < ((s76l : Nat) : Int)) <|
  LoadT .ptr (a79.add ((subI .u8 x78 1).toNat)) fun p80 =>
  BIf p80.isNone (
   Drw <|
   NN sl_68 fun a81 =>
   LoadT .ptr (a81.add 2) fun p82 =>
   NN p82 fun a83 =>
   LoadT .slice (a83.add 1) fun s84p s84l s84c =>
   NN sl_68 fun a85 =>
   LoadT (.int .u8) (a85.add 1) fun x86 =>
   NN s84p fun a87 =>
   Req (0 ≤ x86 ∧ x86 < ((s84l : Nat) : Int)) <|
   Store1 (a87.add x86.toNat) (.int .u64 0) <|
   NN sl_68 fun a88 =>
   LoadT (.int .u8) (a88.add 1) fun x89 =>
   Store1 (a88.add 1) (.int .u8 (subI .u8 x89 1)) <|
   again70 sl_68 n_69) (
   F76_J1 k n_69)) (
  F76_J1 k n_69)
theorem F76_L2_rule {k : Value → W} (I : Option Addr → Option Addr → W) (μ : Option Addr → Option Addr → World → Nat)
  (hr : ∀ (sl_68 : Option Addr) (n_69 : Option Addr) (w : World), I sl_68 n_69 w → F76_L2 k (fun sl_68' n_69' w' => I sl_68' n_69' w' ∧ μ sl_68' n_69' w' < μ sl_68 n_69 w) sl_68 n_69 w)
  {w : World} {sl_68 : Option Addr} {n_69 : Option Addr} (h : I sl_68 n_69 w) : Loop [.ptr, .ptr] (F76_L2 k) sl_68 n_69 w :=
  Loop_intro (ts := [.ptr, .ptr]) (s := (sl_68, n_69, ())) (fun s w => I s.1 s.2.1 w) (fun s w => μ s.1 s.2.1 w) h (fun s w h => hr s.1 s.2.1 w h)
def F76_L1 (k : Value → W) (again15 : Option Addr → Option Addr → Int → W) (sl_12 : Option Addr) (n_13 : Option Addr) (i_14 : Int) : W :=
 NN sl_12 fun a16 =>
 LoadT (.int .u8) (a16.add 1) fun x17 =>
 BIf (decide (i_14 ≤ x17)) (
  NN sl_12 fun a18 =>
  LoadT .slice (a18.add 4) fun s19p s19l s19c =>
  NN s19p fun a20 =>
  Req (0 ≤ i_14 ∧ i_14 < ((s19l : Nat) : Int)) <|
  LoadT .ptr (a20.add i_14.toNat) fun p21 =>
  NN p21 fun a22 =>
  LoadT .slice a22 fun s23p s23l s23c =>
  NN s23p fun a24 =>
  Req (0 ≤ i_14 ∧ i_14 < ((s23l : Nat) : Int)) <|
  LoadT .ptr (a24.add i_14.toNat) fun p25 =>
  RawS Go.Proofs.Tryz.prog (binS .neq 101 (.tmp 57) (.tmp 58) (.pointer p25) (.pointer n_13)) (.s (.one .bool)) fun b26 =>
  BIf b26 (
   NN sl_12 fun a27 =>
   LoadT .slice (a27.add 4) fun s28p s28l s28c =>
   NN s28p fun a29 =>
   Req (0 ≤ i_14 ∧ i_14 < ((s28l : Nat) : Int)) <|
   LoadT .ptr (a29.add i_14.toNat) fun p30 =>
   NN p30 fun a31 =>
   LoadT .slice a31 fun s32p s32l s32c =>
   NN s32p fun a33 =>
   Req (0 ≤ i_14 ∧ i_14 < ((s32l : Nat) : Int)) <|
   LoadT .ptr (a33.add i_14.toNat) fun p34 =>
   BIf (!p34.isNone) (
    NN sl_12 fun a35 =>
    LoadT .slice (a35.add 4) fun s36p s36l s36c =>
    NN s36p fun a37 =>
    Req (0 ≤ i_14 ∧ i_14 < ((s36l : Nat) : Int)) <|
    LoadT .ptr (a37.add i_14.toNat) fun p38 =>
    NN p38 fun a39 =>
    LoadT .slice (a39.add 1) fun s40p s40l s40c =>
    NN s40p fun a41 =>
    Req (0 ≤ i_14 ∧ i_14 < ((s40l : Nat) : Int)) <|
    LoadT (.int .u64) (a41.add i_14.toNat) fun x42 =>
    NN s40p fun a43 =>
    Req (0 ≤ i_14 ∧ i_14 < ((s40l : Nat) : Int)) <|
    Store1 (a43.add i_14.toNat) (.int .u64 (subI .u64 x42 1)) <|
    again15 sl_12 n_13 (addI .u8 i_14 1)) (
    again15 sl_12 n_13 (addI .u8 i_14 1))) (
   Drw <|
   NN sl_12 fun a44 =>
   LoadT .slice (a44.add 4) fun s45p s45l s45c =>
   NN s45p fun a46 =>
   Req (0 ≤ i_14 ∧ i_14 < ((s45l : Nat) : Int)) <|
   LoadT .ptr (a46.add i_14.toNat) fun p47 =>
   NN p47 fun a48 =>
   LoadT .slice (a48.add 1) fun s49p s49l s49c =>
   NN s49p fun a50 =>
   Req (0 ≤ i_14 ∧ i_14 < ((s49l : Nat) : Int)) <|
   LoadT (.int .u64) (a50.add i_14.toNat) fun x51 =>
   NN n_13 fun a52 =>
   LoadT .slice (a52.add 1) fun s53p s53l s53c =>
   NN s53p fun a54 =>
   Req (0 ≤ i_14 ∧ i_14 < ((s53l : Nat) : Int)) <|
   LoadT (.int .u64) (a54.add i_14.toNat) fun x55 =>
   NN s49p fun a56 =>
   Req (0 ≤ i_14 ∧ i_14 < ((s49l : Nat) : Int)) <|
   Store1 (a56.add i_14.toNat) (.int .u64 (addI .u64 x51 (subI .u64 x55 1))) <|
   Drw <|
   NN sl_12 fun a57 =>
   LoadT .slice (a57.add 4) fun s58p s58l s58c =>
   NN s58p fun a59 =>
   Req (0 ≤ i_14 ∧ i_14 < ((s58l : Nat) : Int)) <|
   LoadT .ptr (a59.add i_14.toNat) fun p60 =>
   NN p60 fun a61 =>
   LoadT .slice a61 fun s62p s62l s62c =>
   NN n_13 fun a63 =>
   LoadT .slice a63 fun s64p s64l s64c =>
   NN s64p fun a65 =>
   Req (0 ≤ i_14 ∧ i_14 < ((s64l : Nat) : Int)) <|
   LoadT .ptr (a65.add i_14.toNat) fun p66 =>
   NN s62p fun a67 =>
   Req (0 ≤ i_14 ∧ i_14 < ((s62l : Nat) : Int)) <|
   Store1 (a67.add i_14.toNat) (.pointer p66) <|
   again15 sl_12 n_13 (addI .u8 i_14 1))) (
  Loop [.ptr, .ptr] (F76_L2 k) sl_12 n_13)
theorem F76_L1_rule {k : Value → W} (I : Option Addr → Option Addr → Int → W) (μ : Option Addr → Option Addr → Int → World → Nat)
  (hr : ∀ (sl_12 : Option Addr) (n_13 : Option Addr) (i_14 : Int) (w : World), I sl_12 n_13 i_14 w → F76_L1 k (fun sl_12' n_13' i_14' w' => I sl_12' n_13' i_14' w' ∧ μ sl_12' n_13' i_14' w' < μ sl_12 n_13 i_14 w) sl_12 n_13 i_14 w)
  {w : World} {sl_12 : Option Addr} {n_13 : Option Addr} {i_14 : Int} (h : I sl_12 n_13 i_14 w) : Loop [.ptr, .ptr, (.int .u8)] (F76_L1 k) sl_12 n_13 i_14 w :=
  Loop_intro (ts := [.ptr, .ptr, (.int .u8)]) (s := (sl_12, n_13, i_14, ())) (fun s w => I s.1 s.2.1 s.2.2.1 w) (fun s w => μ s.1 s.2.1 s.2.2.1 w) h (fun s w h => hr s.1 s.2.1 s.2.2.1 w h)
def F76 (k : Value → W) (sl_1 : Option Addr) (cmp_2 : Value) : W :=
 Drw <|
 NN sl_1 fun a3 =>
 LoadT .slice (a3.add 4) fun s4p s4l s4c =>
 NN sl_1 fun a5 =>
 LoadT .slice (a5.add 5) fun s6p s6l s6c =>
 CallT Go.Proofs.Tryz.prog 71 [.pointer sl_1, cmp_2, .slice s4p s4l s4c, .slice s6p s6l s6c] (.tup [(.one .ptr), (.one (.int .u64))]) fun p7 x8 =>
 BIf p7.isNone (
  k .nilIface) (
  CallT Go.Proofs.Tryz.prog 72 [.pointer p7, cmp_2] (.s (.one (.int .i64))) fun x9 =>
  BIf (x9 != 0) (
   k .nilIface) (
   NN sl_1 fun a10 =>
   LoadT (.int .u64) (a10.add 3) fun x11 =>
   Store1 (a10.add 3) (.int .u64 (subI .u64 x11 1)) <|
   Loop [.ptr, .ptr, (.int .u8)] (F76_L1 k) sl_1 p7 0))
theorem F76_eq (k : Value → W) (sl_1 : Option Addr) (cmp_2 : Value) : compF Go.Proofs.Tryz.prog Go.Proofs.Tryz.f76 [(6, [(0, .ptr), (5, .ptr), (7, (.int .u8))]), (13, [(0, .ptr), (5, .ptr)])] (Go.Proofs.Tryz.f76.body.getD .skip) [.pointer sl_1, cmp_2] k = F76 k sl_1 cmp_2 := by kernel_rfl
theorem F76_calls {sl_1 : Option Addr} {cmp_2 : Value} {w : World} {R : Ending → World → Prop} (h : F76 (fun v w => R (.returned v) w) sl_1 cmp_2 w) : Calls Go.Proofs.Tryz.prog 76 #[.pointer sl_1, cmp_2] w R :=
  calls_of_compF noNum follows [(6, [(0, .ptr), (5, .ptr), (7, (.int .u8))]), (13, [(0, .ptr), (5, .ptr)])] (f := 76) (fn := Go.Proofs.Tryz.f76) (body := Go.Proofs.Tryz.f76.body.getD .skip) (args := [.pointer sl_1, cmp_2]) rfl rfl (Nat.le_of_ble_eq_true rfl) ((congrFun (F76_eq _ sl_1 cmp_2) w).mpr h)
theorem F76_call {sl_1 : Option Addr} {cmp_2 : Value} {w : World} {g : Fn W (RTy.leaves (.s (.one .any)))} (h : F76 (fun v => Back (.s (.one .any)) g (.returned v)) sl_1 cmp_2 w) : CallT Go.Proofs.Tryz.prog 76 [.pointer sl_1, cmp_2] (.s (.one .any)) g w := F76_calls h

/-! ## skip.SkipList).Delete -/
def F70_L1 (k : Value → W) (again9 : Option Addr → Option Addr → Nat → Nat → Option Addr → Nat → Nat → Int → Int → W) (sl_4 : Option Addr) (deleted_5p : Option Addr) (deleted_5l : Nat) (deleted_5c : Nat) (s6p : Option Addr) (s6l : Nat) (s6c : Nat) (x7 : Int) (x8 : Int) : W :=
 BIf (decide (x8 < x7)) (
  NN s6p fun a10 =>
  Req (0 ≤ x8 ∧ x8 < ((s6l : Nat) : Int)) <|
  LoadT .any (a10.add x8.toNat) fun v11 =>
  CallT Go.Proofs.Tryz.prog 76 [.pointer sl_4, v11] (.s (.one .any)) fun v12 =>
  RawT Go.Proofs.Tryz.prog (Instr.buildSlice 141 1 [(0, v12)].toArray) (.s (.one .slice)) fun s13p s13l s13c =>
  NextT Go.Proofs.Tryz.prog (builtin .append #[141, 141] 141 [false, false].toArray [.slice deleted_5p deleted_5l deleted_5c, .slice s13p s13l s13c].toArray) (.s (.one .slice)) fun s14p s14l s14c =>
  again9 sl_4 s14p s14l s14c s6p s6l s6c x7 (addI .i64 x8 1)) (
  k (.slice deleted_5p deleted_5l deleted_5c))
theorem F70_L1_rule {k : Value → W} (I : Option Addr → Option Addr → Nat → Nat → Option Addr → Nat → Nat → Int → Int → W) (μ : Option Addr → Option Addr → Nat → Nat → Option Addr → Nat → Nat → Int → Int → World → Nat)
  (hr : ∀ (sl_4 : Option Addr) (deleted_5p : Option Addr) (deleted_5l : Nat) (deleted_5c : Nat) (s6p : Option Addr) (s6l : Nat) (s6c : Nat) (x7 : Int) (x8 : Int) (w : World), I sl_4 deleted_5p deleted_5l deleted_5c s6p s6l s6c x7 x8 w → F70_L1 k (fun sl_4' deleted_5p' deleted_5l' deleted_5c' s6p' s6l' s6c' x7' x8' w' => I sl_4' deleted_5p' deleted_5l' deleted_5c' s6p' s6l' s6c' x7' x8' w' ∧ μ sl_4' deleted_5p' deleted_5l' deleted_5c' s6p' s6l' s6c' x7' x8' w' < μ sl_4 deleted_5p deleted_5l deleted_5c s6p s6l s6c x7 x8 w) sl_4 deleted_5p deleted_5l deleted_5c s6p s6l s6c x7 x8 w)
  {w : World} {sl_4 : Option Addr} {deleted_5p : Option Addr} {deleted_5l : Nat} {deleted_5c : Nat} {s6p : Option Addr} {s6l : Nat} {s6c : Nat} {x7 : Int} {x8 : Int} (h : I sl_4 deleted_5p deleted_5l deleted_5c s6p s6l s6c x7 x8 w) : Loop [.ptr, .slice, .slice, (.int .i64), (.int .i64)] (F70_L1 k) sl_4 deleted_5p deleted_5l deleted_5c s6p s6l s6c x7 x8 w :=
  Loop_intro (ts := [.ptr, .slice, .slice, (.int .i64), (.int .i64)]) (s := (sl_4, (deleted_5p, deleted_5l, deleted_5c), (s6p, s6l, s6c), x7, x8, ())) (fun s w => I s.1 s.2.1.1 s.2.1.2.1 s.2.1.2.2 s.2.2.1.1 s.2.2.1.2.1 s.2.2.1.2.2 s.2.2.2.1 s.2.2.2.2.1 w) (fun s w => μ s.1 s.2.1.1 s.2.1.2.1 s.2.1.2.2 s.2.2.1.1 s.2.2.1.2.1 s.2.2.1.2.2 s.2.2.2.1 s.2.2.2.2.1 w) h (fun s w h => hr s.1 s.2.1.1 s.2.1.2.1 s.2.1.2.2 s.2.2.1.1 s.2.2.1.2.1 s.2.2.1.2.2 s.2.2.2.1 s.2.2.2.2.1 w h)
def F70 (k : Value → W) (sl_1 : Option Addr) (comparators_2p : Option Addr) (comparators_2l : Nat) (comparators_2c : Nat) : W :=
 RawT Go.Proofs.Tryz.prog (Instr.makeSlice 141 (.int .i64 0) (.int .i64 ((comparators_2l : Nat) : Int))) (.s (.one .slice)) fun s3p s3l s3c =>
 Loop [.ptr, .slice, .slice, (.int .i64), (.int .i64)] (F70_L1 k) sl_1 s3p s3l s3c comparators_2p comparators_2l comparators_2c ((comparators_2l : Nat) : Int) 0
theorem F70_eq (k : Value → W) (sl_1 : Option Addr) (comparators_2p : Option Addr) (comparators_2l : Nat) (comparators_2c : Nat) : compF Go.Proofs.Tryz.prog Go.Proofs.Tryz.f70 [(3, [(0, .ptr), (5, .slice), (11, .slice), (12, (.int .i64)), (13, (.int .i64))])] (Go.Proofs.Tryz.f70.body.getD .skip) [.pointer sl_1, .slice comparators_2p comparators_2l comparators_2c] k = F70 k sl_1 comparators_2p comparators_2l comparators_2c := by kernel_rfl
theorem F70_calls {sl_1 : Option Addr} {comparators_2p : Option Addr} {comparators_2l : Nat} {comparators_2c : Nat} {w : World} {R : Ending → World → Prop} (h : F70 (fun v w => R (.returned v) w) sl_1 comparators_2p comparators_2l comparators_2c w) : Calls Go.Proofs.Tryz.prog 70 #[.pointer sl_1, .slice comparators_2p comparators_2l comparators_2c] w R :=
  calls_of_compF noNum follows [(3, [(0, .ptr), (5, .slice), (11, .slice), (12, (.int .i64)), (13, (.int .i64))])] (f := 70) (fn := Go.Proofs.Tryz.f70) (body := Go.Proofs.Tryz.f70.body.getD .skip) (args := [.pointer sl_1, .slice comparators_2p comparators_2l comparators_2c]) rfl rfl (Nat.le_of_ble_eq_true rfl) ((congrFun (F70_eq _ sl_1 comparators_2p comparators_2l comparators_2c) w).mpr h)
theorem F70_call {sl_1 : Option Addr} {comparators_2p : Option Addr} {comparators_2l : Nat} {comparators_2c : Nat} {w : World} {g : Fn W (RTy.leaves (.s (.one .slice)))} (h : F70 (fun v => Back (.s (.one .slice)) g (.returned v)) sl_1 comparators_2p comparators_2l comparators_2c w) : CallT Go.Proofs.Tryz.prog 70 [.pointer sl_1, .slice comparators_2p comparators_2l comparators_2c] (.s (.one .slice)) g w := F70_calls h

/-! ## skip.iterator).Value -/
def F127 (k : Value → W) (iter_1 : Option Addr) : W :=
 NN iter_1 fun a2 =>
 LoadT .ptr (a2.add 1) fun p3 =>
 BIf p3.isNone (
  k .nilIface) (
  NN iter_1 fun a4 =>
  LoadT .ptr (a4.add 1) fun p5 =>
  NN p5 fun a6 =>
  LoadT .any (a6.add 2) fun v7 =>
  k v7)
theorem F127_eq (k : Value → W) (iter_1 : Option Addr) : compF Go.Proofs.Tryz.prog Go.Proofs.Tryz.f127 [] (Go.Proofs.Tryz.f127.body.getD .skip) [.pointer iter_1] k = F127 k iter_1 := by kernel_rfl
theorem F127_calls {iter_1 : Option Addr} {w : World} {R : Ending → World → Prop} (h : F127 (fun v w => R (.returned v) w) iter_1 w) : Calls Go.Proofs.Tryz.prog 127 #[.pointer iter_1] w R :=
  calls_of_compF noNum follows [] (f := 127) (fn := Go.Proofs.Tryz.f127) (body := Go.Proofs.Tryz.f127.body.getD .skip) (args := [.pointer iter_1]) rfl rfl (Nat.le_of_ble_eq_true rfl) ((congrFun (F127_eq _ iter_1) w).mpr h)
theorem F127_call {iter_1 : Option Addr} {w : World} {g : Fn W (RTy.leaves (.s (.one .any)))} (h : F127 (fun v => Back (.s (.one .any)) g (.returned v)) iter_1 w) : CallT Go.Proofs.Tryz.prog 127 [.pointer iter_1] (.s (.one .any)) g w := F127_calls h

/-! ## skip.iterator).Next -/
def F126 (k : Value → W) (iter_1 : Option Addr) : W :=
 NN iter_1 fun a2 =>
 LoadT .bool a2 fun b3 =>
 BIf b3 (
  NN iter_1 fun a4 =>
  Store1 a4 (.bool false) <|
  NN iter_1 fun a5 =>
  LoadT .ptr (a5.add 1) fun p6 =>
  k (.bool (!p6.isNone))) (
  NN iter_1 fun a7 =>
  LoadT .ptr (a7.add 1) fun p8 =>
  BIf p8.isNone (
   k (.bool false)) (
   NN iter_1 fun a9 =>
   LoadT .ptr (a9.add 1) fun p10 =>
   NN p10 fun a11 =>
   LoadT .slice a11 fun s12p s12l s12c =>
   NN s12p fun a13 =>
   Req (0 ≤ (0 : Int) ∧ (0 : Int) < ((s12l : Nat) : Int)) <|
   LoadT .ptr (a13.add ((0 : Int).toNat)) fun p14 =>
   NN iter_1 fun a15 =>
   Store1 (a15.add 1) (.pointer p14) <|
   NN iter_1 fun a16 =>
   LoadT .ptr (a16.add 1) fun p17 =>
   k (.bool (!p17.isNone))))
theorem F126_eq (k : Value → W) (iter_1 : Option Addr) : compF Go.Proofs.Tryz.prog Go.Proofs.Tryz.f126 [] (Go.Proofs.Tryz.f126.body.getD .skip) [.pointer iter_1] k = F126 k iter_1 := by kernel_rfl
theorem F126_calls {iter_1 : Option Addr} {w : World} {R : Ending → World → Prop} (h : F126 (fun v w => R (.returned v) w) iter_1 w) : Calls Go.Proofs.Tryz.prog 126 #[.pointer iter_1] w R :=
  calls_of_compF noNum follows [] (f := 126) (fn := Go.Proofs.Tryz.f126) (body := Go.Proofs.Tryz.f126.body.getD .skip) (args := [.pointer iter_1]) rfl rfl (Nat.le_of_ble_eq_true rfl) ((congrFun (F126_eq _ iter_1) w).mpr h)
theorem F126_call {iter_1 : Option Addr} {w : World} {g : Fn W (RTy.leaves (.s (.one .bool)))} (h : F126 (fun v => Back (.s (.one .bool)) g (.returned v)) iter_1 w) : CallT Go.Proofs.Tryz.prog 126 [.pointer iter_1] (.s (.one .bool)) g w := F126_calls h

/-! ## skip.nilIterator -/
def F78 (k : Value → W) : W :=
 New [.bool false, .pointer none] 169 fun n1 =>
 k (.pointer (some ⟨n1, 0, none⟩))
theorem F78_eq (k : Value → W) : compF Go.Proofs.Tryz.prog Go.Proofs.Tryz.f78 [] (Go.Proofs.Tryz.f78.body.getD .skip) [] k = F78 k  := by kernel_rfl
theorem F78_calls {w : World} {R : Ending → World → Prop} (h : F78 (fun v w => R (.returned v) w)  w) : Calls Go.Proofs.Tryz.prog 78 #[] w R :=
  calls_of_compF noNum follows [] (f := 78) (fn := Go.Proofs.Tryz.f78) (body := Go.Proofs.Tryz.f78.body.getD .skip) (args := []) rfl rfl (Nat.le_of_ble_eq_true rfl) ((congrFun (F78_eq _ ) w).mpr h)
theorem F78_call {w : World} {g : Fn W (RTy.leaves (.s (.one .ptr)))} (h : F78 (fun v => Back (.s (.one .ptr)) g (.returned v))  w) : CallT Go.Proofs.Tryz.prog 78 [] (.s (.one .ptr)) g w := F78_calls h

/-! ## skip.SkipList).iter -/
def F74 (k : Value → W) (sl_1 : Option Addr) (cmp_2 : Value) : W :=
 CallT Go.Proofs.Tryz.prog 71 [.pointer sl_1, cmp_2, .slice none 0 0, .slice none 0 0] (.tup [(.one .ptr), (.one (.int .u64))]) fun p3 x4 =>
 BIf p3.isNone (
  CallT Go.Proofs.Tryz.prog 78 [] (.s (.one .ptr)) fun p5 =>
  k (.pointer p5)) (
  New [.bool true, .pointer p3] 169 fun n6 =>
  k (.pointer (some ⟨n6, 0, none⟩)))
theorem F74_eq (k : Value → W) (sl_1 : Option Addr) (cmp_2 : Value) : compF Go.Proofs.Tryz.prog Go.Proofs.Tryz.f74 [] (Go.Proofs.Tryz.f74.body.getD .skip) [.pointer sl_1, cmp_2] k = F74 k sl_1 cmp_2 := by kernel_rfl
theorem F74_calls {sl_1 : Option Addr} {cmp_2 : Value} {w : World} {R : Ending → World → Prop} (h : F74 (fun v w => R (.returned v) w) sl_1 cmp_2 w) : Calls Go.Proofs.Tryz.prog 74 #[.pointer sl_1, cmp_2] w R :=
  calls_of_compF noNum follows [] (f := 74) (fn := Go.Proofs.Tryz.f74) (body := Go.Proofs.Tryz.f74.body.getD .skip) (args := [.pointer sl_1, cmp_2]) rfl rfl (Nat.le_of_ble_eq_true rfl) ((congrFun (F74_eq _ sl_1 cmp_2) w).mpr h)
theorem F74_call {sl_1 : Option Addr} {cmp_2 : Value} {w : World} {g : Fn W (RTy.leaves (.s (.one .ptr)))} (h : F74 (fun v => Back (.s (.one .ptr)) g (.returned v)) sl_1 cmp_2 w) : CallT Go.Proofs.Tryz.prog 74 [.pointer sl_1, cmp_2] (.s (.one .ptr)) g w := F74_calls h

/-! ## skip.SkipList).Iter -/
def F66 (k : Value → W) (sl_1 : Option Addr) (cmp_2 : Value) : W :=
 CallT Go.Proofs.Tryz.prog 74 [.pointer sl_1, cmp_2] (.s (.one .ptr)) fun p3 =>
 k (.iface 163 (.pointer p3))
theorem F66_eq (k : Value → W) (sl_1 : Option Addr) (cmp_2 : Value) : compF Go.Proofs.Tryz.prog Go.Proofs.Tryz.f66 [] (Go.Proofs.Tryz.f66.body.getD .skip) [.pointer sl_1, cmp_2] k = F66 k sl_1 cmp_2 := by kernel_rfl
theorem F66_calls {sl_1 : Option Addr} {cmp_2 : Value} {w : World} {R : Ending → World → Prop} (h : F66 (fun v w => R (.returned v) w) sl_1 cmp_2 w) : Calls Go.Proofs.Tryz.prog 66 #[.pointer sl_1, cmp_2] w R :=
  calls_of_compF noNum follows [] (f := 66) (fn := Go.Proofs.Tryz.f66) (body := Go.Proofs.Tryz.f66.body.getD .skip) (args := [.pointer sl_1, cmp_2]) rfl rfl (Nat.le_of_ble_eq_true rfl) ((congrFun (F66_eq _ sl_1 cmp_2) w).mpr h)
theorem F66_call {sl_1 : Option Addr} {cmp_2 : Value} {w : World} {g : Fn W (RTy.leaves (.s (.one .any)))} (h : F66 (fun v => Back (.s (.one .any)) g (.returned v)) sl_1 cmp_2 w) : CallT Go.Proofs.Tryz.prog 66 [.pointer sl_1, cmp_2] (.s (.one .any)) g w := F66_calls h

end Go.Proofs.YtfokodpnoiilbaaGreat.E
