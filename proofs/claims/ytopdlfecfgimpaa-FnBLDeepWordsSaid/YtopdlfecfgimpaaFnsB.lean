/-
  Printed by this session's own program eng.py out of Lean's print of the loaded functions: what each function's body asks, in the engine's words; each is checked against the program by the kernel.
-/
import Derived.Test.YtopdlfecfgimpaaEng
import Derived.Test.YtopdlfecfgimpaaFnsA
namespace Go.Proofs.Ytopdlfecfgimpaa.E
open Go
set_option linter.unusedVariables false
set_option maxRecDepth 100000
/-! ## impl.BSSet -/
def F17 (k : Value → W) (x1 : Int) (s2p : Option Addr) (s2l : Nat) (s2c : Nat) (i_3 : Int) : W :=
 New [.int .u64 x1, .slice s2p s2l s2c] 25 fun n4 =>
 New [.int .u64 0, .slice none 0 0] 25 fun n5 =>
 LoadT (.int .u64) ⟨n4, 0, none⟩ fun x6 =>
 LoadT .slice ⟨n4, 1, none⟩ fun s7p s7l s7c =>
 CallT Go.Proofs.Try.prog 49 [.agg #[.int .u64 x6, .slice s7p s7l s7c]] (.s (.one .ptr)) fun p8 =>
 CallT Go.Proofs.Try.prog 54 [.pointer p8, .int .u64 i_3] (.s (.one .ptr)) fun p9 =>
 CallT Go.Proofs.Try.prog 51 [.pointer p8] (.s (.agg [(.int .u64), .slice])) fun x10 s11p s11l s11c =>
 Store1 ⟨n5, 0, none⟩ (.int .u64 x10) <|
 Store1 ⟨n5, 1, none⟩ (.slice s11p s11l s11c) <|
 LoadT (.int .u64) ⟨n5, 0, none⟩ fun x12 =>
 LoadT .slice ⟨n5, 1, none⟩ fun s13p s13l s13c =>
 k (.agg #[.int .u64 x12, .slice s13p s13l s13c])
theorem F17_eq (k : Value → W) (x1 : Int) (s2p : Option Addr) (s2l : Nat) (s2c : Nat) (i_3 : Int) : compF Go.Proofs.Try.prog Go.Proofs.Try.f17 [] (Go.Proofs.Try.f17.body.getD .skip) [.agg #[.int .u64 x1, .slice s2p s2l s2c], .int .u64 i_3] k = F17 k x1 s2p s2l s2c i_3 := by kernel_rfl
theorem F17_calls {x1 : Int} {s2p : Option Addr} {s2l : Nat} {s2c : Nat} {i_3 : Int} {w : World} {R : Ending → World → Prop} (h : F17 (fun v w => R (.returned v) w) x1 s2p s2l s2c i_3 w) : Calls Go.Proofs.Try.prog 17 #[.agg #[.int .u64 x1, .slice s2p s2l s2c], .int .u64 i_3] w R :=
  calls_of_compF noNum follows [] (f := 17) (fn := Go.Proofs.Try.f17) (body := Go.Proofs.Try.f17.body.getD .skip) (args := [.agg #[.int .u64 x1, .slice s2p s2l s2c], .int .u64 i_3]) rfl rfl (Nat.le_of_ble_eq_true rfl) ((congrFun (F17_eq _ x1 s2p s2l s2c i_3) w).mpr h)
theorem F17_call {x1 : Int} {s2p : Option Addr} {s2l : Nat} {s2c : Nat} {i_3 : Int} {w : World} {g : Fn W (RTy.leaves (.s (.agg [(.int .u64), .slice])))} (h : F17 (fun v => Back (.s (.agg [(.int .u64), .slice])) g (.returned v)) x1 s2p s2l s2c i_3 w) : CallT Go.Proofs.Try.prog 17 [.agg #[.int .u64 x1, .slice s2p s2l s2c], .int .u64 i_3] (.s (.agg [(.int .u64), .slice])) g w := F17_calls h

/-! ## bitset.BitSet).isLenExactMultiple -/
def F114 (k : Value → W) (b_1 : Option Addr) : W :=
 NN b_1 fun a2 =>
 LoadT (.int .u64) a2 fun x3 =>
 CallT Go.Proofs.Try.prog 86 [.int .u64 x3] (.s (.one (.int .u64))) fun x4 =>
 k (.bool (x4 == 0))
theorem F114_eq (k : Value → W) (b_1 : Option Addr) : compF Go.Proofs.Try.prog Go.Proofs.Try.f114 [] (Go.Proofs.Try.f114.body.getD .skip) [.pointer b_1] k = F114 k b_1 := by kernel_rfl
theorem F114_calls {b_1 : Option Addr} {w : World} {R : Ending → World → Prop} (h : F114 (fun v w => R (.returned v) w) b_1 w) : Calls Go.Proofs.Try.prog 114 #[.pointer b_1] w R :=
  calls_of_compF noNum follows [] (f := 114) (fn := Go.Proofs.Try.f114) (body := Go.Proofs.Try.f114.body.getD .skip) (args := [.pointer b_1]) rfl rfl (Nat.le_of_ble_eq_true rfl) ((congrFun (F114_eq _ b_1) w).mpr h)
theorem F114_call {b_1 : Option Addr} {w : World} {g : Fn W (RTy.leaves (.s (.one .bool)))} (h : F114 (fun v => Back (.s (.one .bool)) g (.returned v)) b_1 w) : CallT Go.Proofs.Try.prog 114 [.pointer b_1] (.s (.one .bool)) g w := F114_calls h

/-! ## bitset.BitSet).cleanLastWord -/
def F88 (k : Value → W) (b_1 : Option Addr) : W :=
 CallT Go.Proofs.Try.prog 114 [.pointer b_1] (.s (.one .bool)) fun b2 =>
 BIf (!b2) (
  Drw <|
  NN b_1 fun a3 =>
  LoadT .slice (a3.add 1) fun s4p s4l s4c =>
  NN b_1 fun a5 =>
  LoadT .slice (a5.add 1) fun s6p s6l s6c =>
  NN s4p fun a7 =>
  Req (0 ≤ subI .i64 ((s6l : Nat) : Int) 1 ∧ subI .i64 ((s6l : Nat) : Int) 1 < (s4l : Int)) <|
  LoadT (.int .u64) (a7.add ((subI .i64 ((s6l : Nat) : Int) 1).toNat)) fun x8 =>
  NN b_1 fun a9 =>
  LoadT (.int .u64) a9 fun x10 =>
  CallT Go.Proofs.Try.prog 86 [.int .u64 x10] (.s (.one (.int .u64))) fun x11 =>
  Chk1 (a7.add ((subI .i64 ((s6l : Nat) : Int) 1).toNat)) (.int .u64 x8) <|
  Chk1 (a5.add 1) (.slice s6p s6l s6c) <|
  Chk1 (a3.add 1) (.slice s4p s4l s4c) <|
  Req (0 ≤ subI .u64 64 x11) <|
  NN s4p fun a12 =>
  Req (0 ≤ subI .i64 ((s6l : Nat) : Int) 1 ∧ subI .i64 ((s6l : Nat) : Int) 1 < (s4l : Int)) <|
  Store1 (a12.add ((subI .i64 ((s6l : Nat) : Int) 1).toNat)) (.int .u64 (andI .u64 x8 (shrI .u64 18446744073709551615 (subI .u64 64 x11).toNat))) <|
  k (.tuple #[])) (
  k (.tuple #[]))
theorem F88_eq (k : Value → W) (b_1 : Option Addr) : compF Go.Proofs.Try.prog Go.Proofs.Try.f88 [] (Go.Proofs.Try.f88.body.getD .skip) [.pointer b_1] k = F88 k b_1 := by kernel_rfl
theorem F88_calls {b_1 : Option Addr} {w : World} {R : Ending → World → Prop} (h : F88 (fun v w => R (.returned v) w) b_1 w) : Calls Go.Proofs.Try.prog 88 #[.pointer b_1] w R :=
  calls_of_compF noNum follows [] (f := 88) (fn := Go.Proofs.Try.f88) (body := Go.Proofs.Try.f88.body.getD .skip) (args := [.pointer b_1]) rfl rfl (Nat.le_of_ble_eq_true rfl) ((congrFun (F88_eq _ b_1) w).mpr h)
theorem F88_call {b_1 : Option Addr} {w : World} {g : Fn W (RTy.leaves (.tup []))} (h : F88 (fun v => Back (.tup []) g (.returned v)) b_1 w) : CallT Go.Proofs.Try.prog 88 [.pointer b_1] (.tup []) g w := F88_calls h

/-! ## bitset.BitSet).Copy -/
def F55_J1 (k : Value → W) (b_10 : Option Addr) (c_11 : Option Addr) : W :=
 NN c_11 fun a12 =>
 LoadT (.int .u64) a12 fun x13 =>
 Drw <|
 NN b_10 fun a14 =>
 LoadT (.int .u64) a14 fun x15 =>
 NN c_11 fun a16 =>
 LoadT (.int .u64) a16 fun x17 =>
 BIf (decide (x15 < x17)) (
  NN b_10 fun a18 =>
  LoadT (.int .u64) a18 fun x19 =>
  CallT Go.Proofs.Try.prog 88 [.pointer c_11] (.tup []) <|
  k (.int .u64 x19)) (
  CallT Go.Proofs.Try.prog 88 [.pointer c_11] (.tup []) <|
  k (.int .u64 x13))
def F55 (k : Value → W) (b_1 : Option Addr) (c_2 : Option Addr) : W :=
 BIf c_2.isNone (
  k (.int .u64 0)) (
  NN b_1 fun a3 =>
  LoadT .slice (a3.add 1) fun s4p s4l s4c =>
  BIf (!s4p.isNone) (
   Drw <|
   NN c_2 fun a5 =>
   LoadT .slice (a5.add 1) fun s6p s6l s6c =>
   NN b_1 fun a7 =>
   LoadT .slice (a7.add 1) fun s8p s8l s8c =>
   NextT Go.Proofs.Try.prog (builtin .copy #[43, 43] 3 [false, false].toArray [.slice s6p s6l s6c, .slice s8p s8l s8c].toArray) (.s (.one (.int .i64))) fun x9 =>
   F55_J1 k b_1 c_2) (
   F55_J1 k b_1 c_2))
theorem F55_eq (k : Value → W) (b_1 : Option Addr) (c_2 : Option Addr) : compF Go.Proofs.Try.prog Go.Proofs.Try.f55 [] (Go.Proofs.Try.f55.body.getD .skip) [.pointer b_1, .pointer c_2] k = F55 k b_1 c_2 := by kernel_rfl
theorem F55_calls {b_1 : Option Addr} {c_2 : Option Addr} {w : World} {R : Ending → World → Prop} (h : F55 (fun v w => R (.returned v) w) b_1 c_2 w) : Calls Go.Proofs.Try.prog 55 #[.pointer b_1, .pointer c_2] w R :=
  calls_of_compF noNum follows [] (f := 55) (fn := Go.Proofs.Try.f55) (body := Go.Proofs.Try.f55.body.getD .skip) (args := [.pointer b_1, .pointer c_2]) rfl rfl (Nat.le_of_ble_eq_true rfl) ((congrFun (F55_eq _ b_1 c_2) w).mpr h)
theorem F55_call {b_1 : Option Addr} {c_2 : Option Addr} {w : World} {g : Fn W (RTy.leaves (.s (.one (.int .u64))))} (h : F55 (fun v => Back (.s (.one (.int .u64))) g (.returned v)) b_1 c_2 w) : CallT Go.Proofs.Try.prog 55 [.pointer b_1, .pointer c_2] (.s (.one (.int .u64))) g w := F55_calls h

/-! ## impl.BSCopy -/
def F18 (k : Value → W) (x1 : Int) (s2p : Option Addr) (s2l : Nat) (s2c : Nat) (x3 : Int) (s4p : Option Addr) (s4l : Nat) (s4c : Nat) : W :=
 New [.int .u64 x1, .slice s2p s2l s2c] 25 fun n5 =>
 New [.int .u64 x3, .slice s4p s4l s4c] 25 fun n6 =>
 New [.int .u64 0, .slice none 0 0] 25 fun n7 =>
 LoadT (.int .u64) ⟨n6, 0, none⟩ fun x8 =>
 LoadT .slice ⟨n6, 1, none⟩ fun s9p s9l s9c =>
 CallT Go.Proofs.Try.prog 49 [.agg #[.int .u64 x8, .slice s9p s9l s9c]] (.s (.one .ptr)) fun p10 =>
 LoadT (.int .u64) ⟨n5, 0, none⟩ fun x11 =>
 LoadT .slice ⟨n5, 1, none⟩ fun s12p s12l s12c =>
 CallT Go.Proofs.Try.prog 49 [.agg #[.int .u64 x11, .slice s12p s12l s12c]] (.s (.one .ptr)) fun p13 =>
 CallT Go.Proofs.Try.prog 55 [.pointer p13, .pointer p10] (.s (.one (.int .u64))) fun x14 =>
 CallT Go.Proofs.Try.prog 51 [.pointer p10] (.s (.agg [(.int .u64), .slice])) fun x15 s16p s16l s16c =>
 Store1 ⟨n7, 0, none⟩ (.int .u64 x15) <|
 Store1 ⟨n7, 1, none⟩ (.slice s16p s16l s16c) <|
 LoadT (.int .u64) ⟨n7, 0, none⟩ fun x17 =>
 LoadT .slice ⟨n7, 1, none⟩ fun s18p s18l s18c =>
 k (.tuple #[.agg #[.int .u64 x17, .slice s18p s18l s18c], .int .u64 x14])
theorem F18_eq (k : Value → W) (x1 : Int) (s2p : Option Addr) (s2l : Nat) (s2c : Nat) (x3 : Int) (s4p : Option Addr) (s4l : Nat) (s4c : Nat) : compF Go.Proofs.Try.prog Go.Proofs.Try.f18 [] (Go.Proofs.Try.f18.body.getD .skip) [.agg #[.int .u64 x1, .slice s2p s2l s2c], .agg #[.int .u64 x3, .slice s4p s4l s4c]] k = F18 k x1 s2p s2l s2c x3 s4p s4l s4c := by kernel_rfl
theorem F18_calls {x1 : Int} {s2p : Option Addr} {s2l : Nat} {s2c : Nat} {x3 : Int} {s4p : Option Addr} {s4l : Nat} {s4c : Nat} {w : World} {R : Ending → World → Prop} (h : F18 (fun v w => R (.returned v) w) x1 s2p s2l s2c x3 s4p s4l s4c w) : Calls Go.Proofs.Try.prog 18 #[.agg #[.int .u64 x1, .slice s2p s2l s2c], .agg #[.int .u64 x3, .slice s4p s4l s4c]] w R :=
  calls_of_compF noNum follows [] (f := 18) (fn := Go.Proofs.Try.f18) (body := Go.Proofs.Try.f18.body.getD .skip) (args := [.agg #[.int .u64 x1, .slice s2p s2l s2c], .agg #[.int .u64 x3, .slice s4p s4l s4c]]) rfl rfl (Nat.le_of_ble_eq_true rfl) ((congrFun (F18_eq _ x1 s2p s2l s2c x3 s4p s4l s4c) w).mpr h)
theorem F18_call {x1 : Int} {s2p : Option Addr} {s2l : Nat} {s2c : Nat} {x3 : Int} {s4p : Option Addr} {s4l : Nat} {s4c : Nat} {w : World} {g : Fn W (RTy.leaves (.tup [(.agg [(.int .u64), .slice]), (.one (.int .u64))]))} (h : F18 (fun v => Back (.tup [(.agg [(.int .u64), .slice]), (.one (.int .u64))]) g (.returned v)) x1 s2p s2l s2c x3 s4p s4l s4c w) : CallT Go.Proofs.Try.prog 18 [.agg #[.int .u64 x1, .slice s2p s2l s2c], .agg #[.int .u64 x3, .slice s4p s4l s4c]] (.tup [(.agg [(.int .u64), .slice]), (.one (.int .u64))]) g w := F18_calls h

/-! ## impl.BSLen -/
def F19 (k : Value → W) (x1 : Int) (s2p : Option Addr) (s2l : Nat) (s2c : Nat) : W :=
 New [.int .u64 x1, .slice s2p s2l s2c] 25 fun n3 =>
 LoadT (.int .u64) ⟨n3, 0, none⟩ fun x4 =>
 LoadT .slice ⟨n3, 1, none⟩ fun s5p s5l s5c =>
 CallT Go.Proofs.Try.prog 49 [.agg #[.int .u64 x4, .slice s5p s5l s5c]] (.s (.one .ptr)) fun p6 =>
 CallT Go.Proofs.Try.prog 56 [.pointer p6] (.s (.one (.int .u64))) fun x7 =>
 k (.int .u64 x7)
theorem F19_eq (k : Value → W) (x1 : Int) (s2p : Option Addr) (s2l : Nat) (s2c : Nat) : compF Go.Proofs.Try.prog Go.Proofs.Try.f19 [] (Go.Proofs.Try.f19.body.getD .skip) [.agg #[.int .u64 x1, .slice s2p s2l s2c]] k = F19 k x1 s2p s2l s2c := by kernel_rfl
theorem F19_calls {x1 : Int} {s2p : Option Addr} {s2l : Nat} {s2c : Nat} {w : World} {R : Ending → World → Prop} (h : F19 (fun v w => R (.returned v) w) x1 s2p s2l s2c w) : Calls Go.Proofs.Try.prog 19 #[.agg #[.int .u64 x1, .slice s2p s2l s2c]] w R :=
  calls_of_compF noNum follows [] (f := 19) (fn := Go.Proofs.Try.f19) (body := Go.Proofs.Try.f19.body.getD .skip) (args := [.agg #[.int .u64 x1, .slice s2p s2l s2c]]) rfl rfl (Nat.le_of_ble_eq_true rfl) ((congrFun (F19_eq _ x1 s2p s2l s2c) w).mpr h)
theorem F19_call {x1 : Int} {s2p : Option Addr} {s2l : Nat} {s2c : Nat} {w : World} {g : Fn W (RTy.leaves (.s (.one (.int .u64))))} (h : F19 (fun v => Back (.s (.one (.int .u64))) g (.returned v)) x1 s2p s2l s2c w) : CallT Go.Proofs.Try.prog 19 [.agg #[.int .u64 x1, .slice s2p s2l s2c]] (.s (.one (.int .u64))) g w := F19_calls h

/-! ## bitset.panicIfNull -/
def F89 (k : Value → W) (b_1 : Option Addr) : W :=
 BIf b_1.isNone (
  bot) (
  k (.tuple #[]))
theorem F89_eq (k : Value → W) (b_1 : Option Addr) : compF Go.Proofs.Try.prog Go.Proofs.Try.f89 [] (Go.Proofs.Try.f89.body.getD .skip) [.pointer b_1] k = F89 k b_1 := by kernel_rfl
theorem F89_calls {b_1 : Option Addr} {w : World} {R : Ending → World → Prop} (h : F89 (fun v w => R (.returned v) w) b_1 w) : Calls Go.Proofs.Try.prog 89 #[.pointer b_1] w R :=
  calls_of_compF noNum follows [] (f := 89) (fn := Go.Proofs.Try.f89) (body := Go.Proofs.Try.f89.body.getD .skip) (args := [.pointer b_1]) rfl rfl (Nat.le_of_ble_eq_true rfl) ((congrFun (F89_eq _ b_1) w).mpr h)
theorem F89_call {b_1 : Option Addr} {w : World} {g : Fn W (RTy.leaves (.tup []))} (h : F89 (fun v => Back (.tup []) g (.returned v)) b_1 w) : CallT Go.Proofs.Try.prog 89 [.pointer b_1] (.tup []) g w := F89_calls h

/-! ## bitset.sortByLength -/
def F90 (k : Value → W) (a_1 : Option Addr) (b_2 : Option Addr) : W :=
 Drw <|
 NN a_1 fun a3 =>
 LoadT (.int .u64) a3 fun x4 =>
 NN b_2 fun a5 =>
 LoadT (.int .u64) a5 fun x6 =>
 BIf (decide (x4 ≤ x6)) (
  k (.tuple #[.pointer a_1, .pointer b_2])) (
  k (.tuple #[.pointer b_2, .pointer a_1]))
theorem F90_eq (k : Value → W) (a_1 : Option Addr) (b_2 : Option Addr) : compF Go.Proofs.Try.prog Go.Proofs.Try.f90 [] (Go.Proofs.Try.f90.body.getD .skip) [.pointer a_1, .pointer b_2] k = F90 k a_1 b_2 := by kernel_rfl
theorem F90_calls {a_1 : Option Addr} {b_2 : Option Addr} {w : World} {R : Ending → World → Prop} (h : F90 (fun v w => R (.returned v) w) a_1 b_2 w) : Calls Go.Proofs.Try.prog 90 #[.pointer a_1, .pointer b_2] w R :=
  calls_of_compF noNum follows [] (f := 90) (fn := Go.Proofs.Try.f90) (body := Go.Proofs.Try.f90.body.getD .skip) (args := [.pointer a_1, .pointer b_2]) rfl rfl (Nat.le_of_ble_eq_true rfl) ((congrFun (F90_eq _ a_1 b_2) w).mpr h)
theorem F90_call {a_1 : Option Addr} {b_2 : Option Addr} {w : World} {g : Fn W (RTy.leaves (.tup [(.one .ptr), (.one .ptr)]))} (h : F90 (fun v => Back (.tup [(.one .ptr), (.one .ptr)]) g (.returned v)) a_1 b_2 w) : CallT Go.Proofs.Try.prog 90 [.pointer a_1, .pointer b_2] (.tup [(.one .ptr), (.one .ptr)]) g w := F90_calls h

/-! ## bitset.BitSet).Intersection -/
def F57_L1 (k : Value → W) (again15 : Option Addr → Option Addr → Option Addr → Nat → Nat → Int → Int → W) (compare_10 : Option Addr) (result_11 : Option Addr) (s12p : Option Addr) (s12l : Nat) (s12c : Nat) (x13 : Int) (x14 : Int) : W :=
 BIf (decide (x14 < x13)) (
  NN s12p fun a16 =>
  Req (0 ≤ x14 ∧ x14 < (s12l : Int)) <|
  LoadT (.int .u64) (a16.add x14.toNat) fun x17 =>
  Drw <|
  NN result_11 fun a18 =>
  LoadT .slice (a18.add 1) fun s19p s19l s19c =>
  NN compare_10 fun a20 =>
  LoadT .slice (a20.add 1) fun s21p s21l s21c =>
  NN s21p fun a22 =>
  Req (0 ≤ x14 ∧ x14 < (s21l : Int)) <|
  LoadT (.int .u64) (a22.add x14.toNat) fun x23 =>
  NN s19p fun a24 =>
  Req (0 ≤ x14 ∧ x14 < (s19l : Int)) <|
  Store1 (a24.add x14.toNat) (.int .u64 (andI .u64 x17 x23)) <|
  again15 compare_10 result_11 s12p s12l s12c x13 (addI .i64 x14 1)) (
  k (.pointer result_11))
theorem F57_L1_rule {k : Value → W} (I : Option Addr → Option Addr → Option Addr → Nat → Nat → Int → Int → W) (μ : Option Addr → Option Addr → Option Addr → Nat → Nat → Int → Int → World → Nat)
  (hr : ∀ (compare_10 : Option Addr) (result_11 : Option Addr) (s12p : Option Addr) (s12l : Nat) (s12c : Nat) (x13 : Int) (x14 : Int) (w : World), I compare_10 result_11 s12p s12l s12c x13 x14 w → F57_L1 k (fun compare_10' result_11' s12p' s12l' s12c' x13' x14' w' => I compare_10' result_11' s12p' s12l' s12c' x13' x14' w' ∧ μ compare_10' result_11' s12p' s12l' s12c' x13' x14' w' < μ compare_10 result_11 s12p s12l s12c x13 x14 w) compare_10 result_11 s12p s12l s12c x13 x14 w)
  {w : World} {compare_10 : Option Addr} {result_11 : Option Addr} {s12p : Option Addr} {s12l : Nat} {s12c : Nat} {x13 : Int} {x14 : Int} (h : I compare_10 result_11 s12p s12l s12c x13 x14 w) : Loop [.ptr, .ptr, .slice, (.int .i64), (.int .i64)] (F57_L1 k) compare_10 result_11 s12p s12l s12c x13 x14 w :=
  Loop_intro (ts := [.ptr, .ptr, .slice, (.int .i64), (.int .i64)]) (s := (compare_10, result_11, (s12p, s12l, s12c), x13, x14, ())) (fun s w => I s.1 s.2.1 s.2.2.1.1 s.2.2.1.2.1 s.2.2.1.2.2 s.2.2.2.1 s.2.2.2.2.1 w) (fun s w => μ s.1 s.2.1 s.2.2.1.1 s.2.2.1.2.1 s.2.2.1.2.2 s.2.2.2.1 s.2.2.2.2.1 w) h (fun s w h => hr s.1 s.2.1 s.2.2.1.1 s.2.2.1.2.1 s.2.2.1.2.2 s.2.2.2.1 s.2.2.2.2.1 w h)
def F57 (k : Value → W) (b_1 : Option Addr) (compare_2 : Option Addr) : W :=
 CallT Go.Proofs.Try.prog 89 [.pointer b_1] (.tup []) <|
 CallT Go.Proofs.Try.prog 89 [.pointer compare_2] (.tup []) <|
 CallT Go.Proofs.Try.prog 90 [.pointer b_1, .pointer compare_2] (.tup [(.one .ptr), (.one .ptr)]) fun p3 p4 =>
 NN p3 fun a5 =>
 LoadT (.int .u64) a5 fun x6 =>
 CallT Go.Proofs.Try.prog 59 [.int .u64 x6] (.s (.one .ptr)) fun p7 =>
 NN p3 fun a8 =>
 LoadT .slice (a8.add 1) fun s9p s9l s9c =>
 Loop [.ptr, .ptr, .slice, (.int .i64), (.int .i64)] (F57_L1 k) p4 p7 s9p s9l s9c ((s9l : Nat) : Int) 0
theorem F57_eq (k : Value → W) (b_1 : Option Addr) (compare_2 : Option Addr) : compF Go.Proofs.Try.prog Go.Proofs.Try.f57 [(6, [(1, .ptr), (4, .ptr), (25, .slice), (26, (.int .i64)), (27, (.int .i64))])] (Go.Proofs.Try.f57.body.getD .skip) [.pointer b_1, .pointer compare_2] k = F57 k b_1 compare_2 := by kernel_rfl
theorem F57_calls {b_1 : Option Addr} {compare_2 : Option Addr} {w : World} {R : Ending → World → Prop} (h : F57 (fun v w => R (.returned v) w) b_1 compare_2 w) : Calls Go.Proofs.Try.prog 57 #[.pointer b_1, .pointer compare_2] w R :=
  calls_of_compF noNum follows [(6, [(1, .ptr), (4, .ptr), (25, .slice), (26, (.int .i64)), (27, (.int .i64))])] (f := 57) (fn := Go.Proofs.Try.f57) (body := Go.Proofs.Try.f57.body.getD .skip) (args := [.pointer b_1, .pointer compare_2]) rfl rfl (Nat.le_of_ble_eq_true rfl) ((congrFun (F57_eq _ b_1 compare_2) w).mpr h)
theorem F57_call {b_1 : Option Addr} {compare_2 : Option Addr} {w : World} {g : Fn W (RTy.leaves (.s (.one .ptr)))} (h : F57 (fun v => Back (.s (.one .ptr)) g (.returned v)) b_1 compare_2 w) : CallT Go.Proofs.Try.prog 57 [.pointer b_1, .pointer compare_2] (.s (.one .ptr)) g w := F57_calls h

/-! ## impl.BSIntersection -/
def F20 (k : Value → W) (x1 : Int) (s2p : Option Addr) (s2l : Nat) (s2c : Nat) (x3 : Int) (s4p : Option Addr) (s4l : Nat) (s4c : Nat) : W :=
 New [.int .u64 x1, .slice s2p s2l s2c] 25 fun n5 =>
 New [.int .u64 x3, .slice s4p s4l s4c] 25 fun n6 =>
 New [.int .u64 0, .slice none 0 0] 25 fun n7 =>
 Drw <|
 LoadT (.int .u64) ⟨n5, 0, none⟩ fun x8 =>
 LoadT .slice ⟨n5, 1, none⟩ fun s9p s9l s9c =>
 LoadT (.int .u64) ⟨n6, 0, none⟩ fun x10 =>
 LoadT .slice ⟨n6, 1, none⟩ fun s11p s11l s11c =>
 CallT Go.Proofs.Try.prog 49 [.agg #[.int .u64 x8, .slice s9p s9l s9c]] (.s (.one .ptr)) fun p12 =>
 Chk1 ⟨n6, 0, none⟩ (.int .u64 x10) <|
 Chk1 ⟨n6, 1, none⟩ (.slice s11p s11l s11c) <|
 CallT Go.Proofs.Try.prog 49 [.agg #[.int .u64 x10, .slice s11p s11l s11c]] (.s (.one .ptr)) fun p13 =>
 Chk1 ⟨n5, 0, none⟩ (.int .u64 x8) <|
 Chk1 ⟨n5, 1, none⟩ (.slice s9p s9l s9c) <|
 CallT Go.Proofs.Try.prog 57 [.pointer p12, .pointer p13] (.s (.one .ptr)) fun p14 =>
 Chk1 ⟨n6, 0, none⟩ (.int .u64 x10) <|
 Chk1 ⟨n6, 1, none⟩ (.slice s11p s11l s11c) <|
 Chk1 ⟨n5, 0, none⟩ (.int .u64 x8) <|
 Chk1 ⟨n5, 1, none⟩ (.slice s9p s9l s9c) <|
 CallT Go.Proofs.Try.prog 51 [.pointer p14] (.s (.agg [(.int .u64), .slice])) fun x15 s16p s16l s16c =>
 Chk1 ⟨n6, 0, none⟩ (.int .u64 x10) <|
 Chk1 ⟨n6, 1, none⟩ (.slice s11p s11l s11c) <|
 Chk1 ⟨n5, 0, none⟩ (.int .u64 x8) <|
 Chk1 ⟨n5, 1, none⟩ (.slice s9p s9l s9c) <|
 Store1 ⟨n7, 0, none⟩ (.int .u64 x15) <|
 Store1 ⟨n7, 1, none⟩ (.slice s16p s16l s16c) <|
 LoadT (.int .u64) ⟨n7, 0, none⟩ fun x17 =>
 LoadT .slice ⟨n7, 1, none⟩ fun s18p s18l s18c =>
 k (.agg #[.int .u64 x17, .slice s18p s18l s18c])
theorem F20_eq (k : Value → W) (x1 : Int) (s2p : Option Addr) (s2l : Nat) (s2c : Nat) (x3 : Int) (s4p : Option Addr) (s4l : Nat) (s4c : Nat) : compF Go.Proofs.Try.prog Go.Proofs.Try.f20 [] (Go.Proofs.Try.f20.body.getD .skip) [.agg #[.int .u64 x1, .slice s2p s2l s2c], .agg #[.int .u64 x3, .slice s4p s4l s4c]] k = F20 k x1 s2p s2l s2c x3 s4p s4l s4c := by kernel_rfl
theorem F20_calls {x1 : Int} {s2p : Option Addr} {s2l : Nat} {s2c : Nat} {x3 : Int} {s4p : Option Addr} {s4l : Nat} {s4c : Nat} {w : World} {R : Ending → World → Prop} (h : F20 (fun v w => R (.returned v) w) x1 s2p s2l s2c x3 s4p s4l s4c w) : Calls Go.Proofs.Try.prog 20 #[.agg #[.int .u64 x1, .slice s2p s2l s2c], .agg #[.int .u64 x3, .slice s4p s4l s4c]] w R :=
  calls_of_compF noNum follows [] (f := 20) (fn := Go.Proofs.Try.f20) (body := Go.Proofs.Try.f20.body.getD .skip) (args := [.agg #[.int .u64 x1, .slice s2p s2l s2c], .agg #[.int .u64 x3, .slice s4p s4l s4c]]) rfl rfl (Nat.le_of_ble_eq_true rfl) ((congrFun (F20_eq _ x1 s2p s2l s2c x3 s4p s4l s4c) w).mpr h)
theorem F20_call {x1 : Int} {s2p : Option Addr} {s2l : Nat} {s2c : Nat} {x3 : Int} {s4p : Option Addr} {s4l : Nat} {s4c : Nat} {w : World} {g : Fn W (RTy.leaves (.s (.agg [(.int .u64), .slice])))} (h : F20 (fun v => Back (.s (.agg [(.int .u64), .slice])) g (.returned v)) x1 s2p s2l s2c x3 s4p s4l s4c w) : CallT Go.Proofs.Try.prog 20 [.agg #[.int .u64 x1, .slice s2p s2l s2c], .agg #[.int .u64 x3, .slice s4p s4l s4c]] (.s (.agg [(.int .u64), .slice])) g w := F20_calls h

/-! ## bitset.BitSet).SetAll -/
def F58_L1 (k : Value → W) (again11 : Option Addr → Int → Int → W) (b_8 : Option Addr) (x9 : Int) (x10 : Int) : W :=
 BIf (decide (x10 < x9)) (
  NN b_8 fun a12 =>
  LoadT .slice (a12.add 1) fun s13p s13l s13c =>
  NN s13p fun a14 =>
  Req (0 ≤ x10 ∧ x10 < (s13l : Int)) <|
  Store1 (a14.add x10.toNat) (.int .u64 18446744073709551615) <|
  again11 b_8 x9 (addI .i64 x10 1)) (
  CallT Go.Proofs.Try.prog 88 [.pointer b_8] (.tup []) <|
  k (.pointer b_8))
theorem F58_L1_rule {k : Value → W} (I : Option Addr → Int → Int → W) (μ : Option Addr → Int → Int → World → Nat)
  (hr : ∀ (b_8 : Option Addr) (x9 : Int) (x10 : Int) (w : World), I b_8 x9 x10 w → F58_L1 k (fun b_8' x9' x10' w' => I b_8' x9' x10' w' ∧ μ b_8' x9' x10' w' < μ b_8 x9 x10 w) b_8 x9 x10 w)
  {w : World} {b_8 : Option Addr} {x9 : Int} {x10 : Int} (h : I b_8 x9 x10 w) : Loop [.ptr, (.int .i64), (.int .i64)] (F58_L1 k) b_8 x9 x10 w :=
  Loop_intro (ts := [.ptr, (.int .i64), (.int .i64)]) (s := (b_8, x9, x10, ())) (fun s w => I s.1 s.2.1 s.2.2.1 w) (fun s w => μ s.1 s.2.1 s.2.2.1 w) h (fun s w h => hr s.1 s.2.1 s.2.2.1 w h)
def F58_J1 (k : Value → W) (b_4 : Option Addr) (b5 : Bool) : W :=
 BIf b5 (
  NN b_4 fun a6 =>
  LoadT .slice (a6.add 1) fun s7p s7l s7c =>
  Loop [.ptr, (.int .i64), (.int .i64)] (F58_L1 k) b_4 ((s7l : Nat) : Int) 0) (
  k (.pointer b_4))
def F58 (k : Value → W) (b_1 : Option Addr) : W :=
 BIf (!b_1.isNone) (
  NN b_1 fun a2 =>
  LoadT .slice (a2.add 1) fun s3p s3l s3c =>
  F58_J1 k b_1 (!s3p.isNone)) (
  F58_J1 k b_1 false)
theorem F58_eq (k : Value → W) (b_1 : Option Addr) : compF Go.Proofs.Try.prog Go.Proofs.Try.f58 [(3, [(0, .ptr), (17, (.int .i64)), (18, (.int .i64))])] (Go.Proofs.Try.f58.body.getD .skip) [.pointer b_1] k = F58 k b_1 := by kernel_rfl
theorem F58_calls {b_1 : Option Addr} {w : World} {R : Ending → World → Prop} (h : F58 (fun v w => R (.returned v) w) b_1 w) : Calls Go.Proofs.Try.prog 58 #[.pointer b_1] w R :=
  calls_of_compF noNum follows [(3, [(0, .ptr), (17, (.int .i64)), (18, (.int .i64))])] (f := 58) (fn := Go.Proofs.Try.f58) (body := Go.Proofs.Try.f58.body.getD .skip) (args := [.pointer b_1]) rfl rfl (Nat.le_of_ble_eq_true rfl) ((congrFun (F58_eq _ b_1) w).mpr h)
theorem F58_call {b_1 : Option Addr} {w : World} {g : Fn W (RTy.leaves (.s (.one .ptr)))} (h : F58 (fun v => Back (.s (.one .ptr)) g (.returned v)) b_1 w) : CallT Go.Proofs.Try.prog 58 [.pointer b_1] (.s (.one .ptr)) g w := F58_calls h

/-! ## impl.BSSetAll -/
def F21 (k : Value → W) (x1 : Int) (s2p : Option Addr) (s2l : Nat) (s2c : Nat) : W :=
 New [.int .u64 x1, .slice s2p s2l s2c] 25 fun n3 =>
 New [.int .u64 0, .slice none 0 0] 25 fun n4 =>
 LoadT (.int .u64) ⟨n3, 0, none⟩ fun x5 =>
 LoadT .slice ⟨n3, 1, none⟩ fun s6p s6l s6c =>
 CallT Go.Proofs.Try.prog 49 [.agg #[.int .u64 x5, .slice s6p s6l s6c]] (.s (.one .ptr)) fun p7 =>
 CallT Go.Proofs.Try.prog 58 [.pointer p7] (.s (.one .ptr)) fun p8 =>
 CallT Go.Proofs.Try.prog 51 [.pointer p7] (.s (.agg [(.int .u64), .slice])) fun x9 s10p s10l s10c =>
 Store1 ⟨n4, 0, none⟩ (.int .u64 x9) <|
 Store1 ⟨n4, 1, none⟩ (.slice s10p s10l s10c) <|
 LoadT (.int .u64) ⟨n4, 0, none⟩ fun x11 =>
 LoadT .slice ⟨n4, 1, none⟩ fun s12p s12l s12c =>
 k (.agg #[.int .u64 x11, .slice s12p s12l s12c])
theorem F21_eq (k : Value → W) (x1 : Int) (s2p : Option Addr) (s2l : Nat) (s2c : Nat) : compF Go.Proofs.Try.prog Go.Proofs.Try.f21 [] (Go.Proofs.Try.f21.body.getD .skip) [.agg #[.int .u64 x1, .slice s2p s2l s2c]] k = F21 k x1 s2p s2l s2c := by kernel_rfl
theorem F21_calls {x1 : Int} {s2p : Option Addr} {s2l : Nat} {s2c : Nat} {w : World} {R : Ending → World → Prop} (h : F21 (fun v w => R (.returned v) w) x1 s2p s2l s2c w) : Calls Go.Proofs.Try.prog 21 #[.agg #[.int .u64 x1, .slice s2p s2l s2c]] w R :=
  calls_of_compF noNum follows [] (f := 21) (fn := Go.Proofs.Try.f21) (body := Go.Proofs.Try.f21.body.getD .skip) (args := [.agg #[.int .u64 x1, .slice s2p s2l s2c]]) rfl rfl (Nat.le_of_ble_eq_true rfl) ((congrFun (F21_eq _ x1 s2p s2l s2c) w).mpr h)
theorem F21_call {x1 : Int} {s2p : Option Addr} {s2l : Nat} {s2c : Nat} {w : World} {g : Fn W (RTy.leaves (.s (.agg [(.int .u64), .slice])))} (h : F21 (fun v => Back (.s (.agg [(.int .u64), .slice])) g (.returned v)) x1 s2p s2l s2c w) : CallT Go.Proofs.Try.prog 21 [.agg #[.int .u64 x1, .slice s2p s2l s2c]] (.s (.agg [(.int .u64), .slice])) g w := F21_calls h

/-! ## impl.BSNew -/
def F22 (k : Value → W) (n_1 : Int) : W :=
 New [.int .u64 0, .slice none 0 0] 25 fun n2 =>
 CallT Go.Proofs.Try.prog 59 [.int .u64 n_1] (.s (.one .ptr)) fun p3 =>
 CallT Go.Proofs.Try.prog 51 [.pointer p3] (.s (.agg [(.int .u64), .slice])) fun x4 s5p s5l s5c =>
 Store1 ⟨n2, 0, none⟩ (.int .u64 x4) <|
 Store1 ⟨n2, 1, none⟩ (.slice s5p s5l s5c) <|
 LoadT (.int .u64) ⟨n2, 0, none⟩ fun x6 =>
 LoadT .slice ⟨n2, 1, none⟩ fun s7p s7l s7c =>
 k (.agg #[.int .u64 x6, .slice s7p s7l s7c])
theorem F22_eq (k : Value → W) (n_1 : Int) : compF Go.Proofs.Try.prog Go.Proofs.Try.f22 [] (Go.Proofs.Try.f22.body.getD .skip) [.int .u64 n_1] k = F22 k n_1 := by kernel_rfl
theorem F22_calls {n_1 : Int} {w : World} {R : Ending → World → Prop} (h : F22 (fun v w => R (.returned v) w) n_1 w) : Calls Go.Proofs.Try.prog 22 #[.int .u64 n_1] w R :=
  calls_of_compF noNum follows [] (f := 22) (fn := Go.Proofs.Try.f22) (body := Go.Proofs.Try.f22.body.getD .skip) (args := [.int .u64 n_1]) rfl rfl (Nat.le_of_ble_eq_true rfl) ((congrFun (F22_eq _ n_1) w).mpr h)
theorem F22_call {n_1 : Int} {w : World} {g : Fn W (RTy.leaves (.s (.agg [(.int .u64), .slice])))} (h : F22 (fun v => Back (.s (.agg [(.int .u64), .slice])) g (.returned v)) n_1 w) : CallT Go.Proofs.Try.prog 22 [.int .u64 n_1] (.s (.agg [(.int .u64), .slice])) g w := F22_calls h

/-! ## laws.FnBSDeepHead -/
def F4_J1 (k : Value → W) (a_34 : Addr) (n_35 : Int) (b_36 : Addr) (many_37 : Int) : W :=
 Drw <|
 BIf (many_37 == n_35) (
  LoadT (.int .u64) (b_36.add 0) fun x38 =>
  LoadT .slice (b_36.add 1) fun s39p s39l s39c =>
  CallT Go.Proofs.Try.prog 19 [.agg #[.int .u64 x38, .slice s39p s39l s39c]] (.s (.one (.int .u64))) fun x40 =>
  BIf (x40 == n_35) (
   LoadT (.int .u64) (b_36.add 0) fun x41 =>
   LoadT .slice (b_36.add 1) fun s42p s42l s42c =>
   LoadT (.int .u64) (a_34.add 0) fun x43 =>
   LoadT .slice (a_34.add 1) fun s44p s44l s44c =>
   CallT Go.Proofs.Try.prog 22 [.int .u64 n_35] (.s (.agg [(.int .u64), .slice])) fun x45 s46p s46l s46c =>
   Chk1 (a_34.add 0) (.int .u64 x43) <|
   Chk1 (a_34.add 1) (.slice s44p s44l s44c) <|
   Chk1 (b_36.add 0) (.int .u64 x41) <|
   Chk1 (b_36.add 1) (.slice s42p s42l s42c) <|
   Chk1 (b_36.add 0) (.int .u64 x38) <|
   Chk1 (b_36.add 1) (.slice s39p s39l s39c) <|
   CallT Go.Proofs.Try.prog 21 [.agg #[.int .u64 x45, .slice s46p s46l s46c]] (.s (.agg [(.int .u64), .slice])) fun x47 s48p s48l s48c =>
   Chk1 (a_34.add 0) (.int .u64 x43) <|
   Chk1 (a_34.add 1) (.slice s44p s44l s44c) <|
   Chk1 (b_36.add 0) (.int .u64 x41) <|
   Chk1 (b_36.add 1) (.slice s42p s42l s42c) <|
   Chk1 (b_36.add 0) (.int .u64 x38) <|
   Chk1 (b_36.add 1) (.slice s39p s39l s39c) <|
   CallT Go.Proofs.Try.prog 20 [.agg #[.int .u64 x43, .slice s44p s44l s44c], .agg #[.int .u64 x47, .slice s48p s48l s48c]] (.s (.agg [(.int .u64), .slice])) fun x49 s50p s50l s50c =>
   Chk1 (b_36.add 0) (.int .u64 x41) <|
   Chk1 (b_36.add 1) (.slice s42p s42l s42c) <|
   Chk1 (b_36.add 0) (.int .u64 x38) <|
   Chk1 (b_36.add 1) (.slice s39p s39l s39c) <|
   CallT Go.Proofs.Try.prog 16 [.agg #[.int .u64 x41, .slice s42p s42l s42c], .agg #[.int .u64 x49, .slice s50p s50l s50c]] (.s (.one .bool)) fun b51 =>
   Chk1 (a_34.add 0) (.int .u64 x43) <|
   Chk1 (a_34.add 1) (.slice s44p s44l s44c) <|
   Chk1 (b_36.add 0) (.int .u64 x38) <|
   Chk1 (b_36.add 1) (.slice s39p s39l s39c) <|
   k (.bool b51)) (
   k (.bool false))) (
  k (.bool false))
def F4 (k : Value → W) (x1 : Int) (s2p : Option Addr) (s2l : Nat) (s2c : Nat) (x3 : Int) (s4p : Option Addr) (s4l : Nat) (s4c : Nat) (at_5 : Int) : W :=
 New [.int .u64 x1, .slice s2p s2l s2c] 25 fun n6 =>
 New [.int .u64 x3, .slice s4p s4l s4c] 25 fun n7 =>
 LoadT (.int .u64) ⟨n6, 0, none⟩ fun x8 =>
 LoadT .slice ⟨n6, 1, none⟩ fun s9p s9l s9c =>
 CallT Go.Proofs.Try.prog 12 [.agg #[.int .u64 x8, .slice s9p s9l s9c]] (.s (.one .bool)) fun b10 =>
 BIf (!b10) (
  k (.bool true)) (
  LoadT (.int .u64) ⟨n7, 0, none⟩ fun x11 =>
  LoadT .slice ⟨n7, 1, none⟩ fun s12p s12l s12c =>
  CallT Go.Proofs.Try.prog 12 [.agg #[.int .u64 x11, .slice s12p s12l s12c]] (.s (.one .bool)) fun b13 =>
  BIf (!b13) (
   k (.bool true)) (
   LoadT (.int .u64) ⟨n6, 0, none⟩ fun x14 =>
   LoadT .slice ⟨n6, 1, none⟩ fun s15p s15l s15c =>
   CallT Go.Proofs.Try.prog 13 [.agg #[.int .u64 x14, .slice s15p s15l s15c]] (.s (.agg [(.int .u64), .slice])) fun x16 s17p s17l s17c =>
   Req (400 ≠ (0 : Int)) <|
   CallT Go.Proofs.Try.prog 17 [.agg #[.int .u64 x16, .slice s17p s17l s17c], .int .u64 (remI (IntKind.wrap .u64 at_5) 400)] (.s (.agg [(.int .u64), .slice])) fun x18 s19p s19l s19c =>
   New [.int .u64 0, .slice none 0 0] 25 fun n20 =>
   Store1 ⟨n20, 0, none⟩ (.int .u64 x18) <|
   Store1 ⟨n20, 1, none⟩ (.slice s19p s19l s19c) <|
   LoadT (.int .u64) ⟨n20, 0, none⟩ fun x21 =>
   BIf (x21 == 0) (
    k (.bool false)) (
    LoadT (.int .u64) ⟨n7, 0, none⟩ fun x22 =>
    LoadT (.int .u64) ⟨n20, 0, none⟩ fun x23 =>
    Req (x23 ≠ (0 : Int)) <|
    Bind (addI .u64 1 (remI x22 x23) : Int) fun n_24 =>
    Drw <|
    LoadT (.int .u64) ⟨n20, 0, none⟩ fun x25 =>
    LoadT .slice ⟨n20, 1, none⟩ fun s26p s26l s26c =>
    LoadT .slice ⟨n7, 1, none⟩ fun s27p s27l s27c =>
    Both (
     CallT Go.Proofs.Try.prog 13 [.agg #[.int .u64 n_24, .slice s27p s27l s27c]] (.s (.agg [(.int .u64), .slice])) fun x28 s29p s29l s29c =>
     Chk1 ⟨n7, 1, none⟩ (.slice s27p s27l s27c) <|
     Chk1 ⟨n20, 0, none⟩ (.int .u64 x25) <|
     Chk1 ⟨n20, 1, none⟩ (.slice s26p s26l s26c) <|
     Both (
      CallT Go.Proofs.Try.prog 18 [.agg #[.int .u64 x25, .slice s26p s26l s26c], .agg #[.int .u64 x28, .slice s29p s29l s29c]] (.tup [(.agg [(.int .u64), .slice]), (.one (.int .u64))]) fun x30 s31p s31l s31c x32 =>
      Chk1 ⟨n7, 1, none⟩ (.slice s27p s27l s27c) <|
      New [.int .u64 0, .slice none 0 0] 25 fun n33 =>
      Chk1 ⟨n7, 1, none⟩ (.slice s27p s27l s27c) <|
      Chk1 ⟨n20, 0, none⟩ (.int .u64 x25) <|
      Chk1 ⟨n20, 1, none⟩ (.slice s26p s26l s26c) <|
      Store1 ⟨n33, 0, none⟩ (.int .u64 x30) <|
      Store1 ⟨n33, 1, none⟩ (.slice s31p s31l s31c) <|
      F4_J1 k ⟨n20, 0, none⟩ n_24 ⟨n33, 0, none⟩ x32) (
      New [.int .u64 0, .slice none 0 0] 25 fun n52 =>
      Chk1 ⟨n7, 1, none⟩ (.slice s27p s27l s27c) <|
      Chk1 ⟨n20, 0, none⟩ (.int .u64 x25) <|
      Chk1 ⟨n20, 1, none⟩ (.slice s26p s26l s26c) <|
      CallT Go.Proofs.Try.prog 18 [.agg #[.int .u64 x25, .slice s26p s26l s26c], .agg #[.int .u64 x28, .slice s29p s29l s29c]] (.tup [(.agg [(.int .u64), .slice]), (.one (.int .u64))]) fun x53 s54p s54l s54c x55 =>
      Chk1 ⟨n7, 1, none⟩ (.slice s27p s27l s27c) <|
      Store1 ⟨n52, 0, none⟩ (.int .u64 x53) <|
      Store1 ⟨n52, 1, none⟩ (.slice s54p s54l s54c) <|
      F4_J1 k ⟨n20, 0, none⟩ n_24 ⟨n52, 0, none⟩ x55)) (
     New [.int .u64 0, .slice none 0 0] 25 fun n56 =>
     Chk1 ⟨n7, 1, none⟩ (.slice s27p s27l s27c) <|
     Chk1 ⟨n20, 0, none⟩ (.int .u64 x25) <|
     Chk1 ⟨n20, 1, none⟩ (.slice s26p s26l s26c) <|
     CallT Go.Proofs.Try.prog 13 [.agg #[.int .u64 n_24, .slice s27p s27l s27c]] (.s (.agg [(.int .u64), .slice])) fun x57 s58p s58l s58c =>
     Chk1 ⟨n7, 1, none⟩ (.slice s27p s27l s27c) <|
     Chk1 ⟨n20, 0, none⟩ (.int .u64 x25) <|
     Chk1 ⟨n20, 1, none⟩ (.slice s26p s26l s26c) <|
     CallT Go.Proofs.Try.prog 18 [.agg #[.int .u64 x25, .slice s26p s26l s26c], .agg #[.int .u64 x57, .slice s58p s58l s58c]] (.tup [(.agg [(.int .u64), .slice]), (.one (.int .u64))]) fun x59 s60p s60l s60c x61 =>
     Chk1 ⟨n7, 1, none⟩ (.slice s27p s27l s27c) <|
     Store1 ⟨n56, 0, none⟩ (.int .u64 x59) <|
     Store1 ⟨n56, 1, none⟩ (.slice s60p s60l s60c) <|
     F4_J1 k ⟨n20, 0, none⟩ n_24 ⟨n56, 0, none⟩ x61))))
theorem F4_eq (k : Value → W) (x1 : Int) (s2p : Option Addr) (s2l : Nat) (s2c : Nat) (x3 : Int) (s4p : Option Addr) (s4l : Nat) (s4c : Nat) (at_5 : Int) : compF Go.Proofs.Try.prog Go.Proofs.Try.f4 [] (Go.Proofs.Try.f4.body.getD .skip) [.agg #[.int .u64 x1, .slice s2p s2l s2c], .agg #[.int .u64 x3, .slice s4p s4l s4c], .int .u16 at_5] k = F4 k x1 s2p s2l s2c x3 s4p s4l s4c at_5 := by kernel_rfl
theorem F4_calls {x1 : Int} {s2p : Option Addr} {s2l : Nat} {s2c : Nat} {x3 : Int} {s4p : Option Addr} {s4l : Nat} {s4c : Nat} {at_5 : Int} {w : World} {R : Ending → World → Prop} (h : F4 (fun v w => R (.returned v) w) x1 s2p s2l s2c x3 s4p s4l s4c at_5 w) : Calls Go.Proofs.Try.prog 4 #[.agg #[.int .u64 x1, .slice s2p s2l s2c], .agg #[.int .u64 x3, .slice s4p s4l s4c], .int .u16 at_5] w R :=
  calls_of_compF noNum follows [] (f := 4) (fn := Go.Proofs.Try.f4) (body := Go.Proofs.Try.f4.body.getD .skip) (args := [.agg #[.int .u64 x1, .slice s2p s2l s2c], .agg #[.int .u64 x3, .slice s4p s4l s4c], .int .u16 at_5]) rfl rfl (Nat.le_of_ble_eq_true rfl) ((congrFun (F4_eq _ x1 s2p s2l s2c x3 s4p s4l s4c at_5) w).mpr h)
theorem F4_call {x1 : Int} {s2p : Option Addr} {s2l : Nat} {s2c : Nat} {x3 : Int} {s4p : Option Addr} {s4l : Nat} {s4c : Nat} {at_5 : Int} {w : World} {g : Fn W (RTy.leaves (.s (.one .bool)))} (h : F4 (fun v => Back (.s (.one .bool)) g (.returned v)) x1 s2p s2l s2c x3 s4p s4l s4c at_5 w) : CallT Go.Proofs.Try.prog 4 [.agg #[.int .u64 x1, .slice s2p s2l s2c], .agg #[.int .u64 x3, .slice s4p s4l s4c], .int .u16 at_5] (.s (.one .bool)) g w := F4_calls h

end Go.Proofs.Ytopdlfecfgimpaa.E
