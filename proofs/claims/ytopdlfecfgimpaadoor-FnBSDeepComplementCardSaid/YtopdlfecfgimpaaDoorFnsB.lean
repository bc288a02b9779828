/-
  Printed by this session's own program eng.py out of Lean's print of the loaded functions: what each function's body asks, in the engine's words; each is checked against the program by the kernel.
-/
import Derived.Test.YtopdlfecfgimpaaDoorEng
import Derived.Test.YtopdlfecfgimpaaDoorFnsA
namespace Go.Proofs.YtopdlfecfgimpaaDoor.E
open Go
set_option linter.unusedVariables false
set_option maxRecDepth 100000
/-! ## impl.BSSet -/
def F8 (k : Value → W) (x1 : Int) (s2p : Option Addr) (s2l : Nat) (s2c : Nat) (i_3 : Int) : W :=
 New [.int .u64 x1, .slice s2p s2l s2c] 25 fun n4 =>
 New [.int .u64 0, .slice none 0 0] 25 fun n5 =>
 LoadT (.int .u64) ⟨n4, 0, none⟩ fun x6 =>
 LoadT .slice ⟨n4, 1, none⟩ fun s7p s7l s7c =>
 CallT Go.Proofs.Tryd.prog 29 [.agg #[.int .u64 x6, .slice s7p s7l s7c]] (.s (.one .ptr)) fun p8 =>
 CallT Go.Proofs.Tryd.prog 30 [.pointer p8, .int .u64 i_3] (.s (.one .ptr)) fun p9 =>
 CallT Go.Proofs.Tryd.prog 31 [.pointer p8] (.s (.agg [(.int .u64), .slice])) fun x10 s11p s11l s11c =>
 Store1 ⟨n5, 0, none⟩ (.int .u64 x10) <|
 Store1 ⟨n5, 1, none⟩ (.slice s11p s11l s11c) <|
 LoadT (.int .u64) ⟨n5, 0, none⟩ fun x12 =>
 LoadT .slice ⟨n5, 1, none⟩ fun s13p s13l s13c =>
 k (.agg #[.int .u64 x12, .slice s13p s13l s13c])
theorem F8_eq (k : Value → W) (x1 : Int) (s2p : Option Addr) (s2l : Nat) (s2c : Nat) (i_3 : Int) : compF Go.Proofs.Tryd.prog Go.Proofs.Tryd.f8 [] (Go.Proofs.Tryd.f8.body.getD .skip) [.agg #[.int .u64 x1, .slice s2p s2l s2c], .int .u64 i_3] k = F8 k x1 s2p s2l s2c i_3 := by kernel_rfl
theorem F8_calls {x1 : Int} {s2p : Option Addr} {s2l : Nat} {s2c : Nat} {i_3 : Int} {w : World} {R : Ending → World → Prop} (h : F8 (fun v w => R (.returned v) w) x1 s2p s2l s2c i_3 w) : Calls Go.Proofs.Tryd.prog 8 #[.agg #[.int .u64 x1, .slice s2p s2l s2c], .int .u64 i_3] w R :=
  calls_of_compF noNum follows [] (f := 8) (fn := Go.Proofs.Tryd.f8) (body := Go.Proofs.Tryd.f8.body.getD .skip) (args := [.agg #[.int .u64 x1, .slice s2p s2l s2c], .int .u64 i_3]) rfl rfl (Nat.le_of_ble_eq_true rfl) ((congrFun (F8_eq _ x1 s2p s2l s2c i_3) w).mpr h)
theorem F8_call {x1 : Int} {s2p : Option Addr} {s2l : Nat} {s2c : Nat} {i_3 : Int} {w : World} {g : Fn W (RTy.leaves (.s (.agg [(.int .u64), .slice])))} (h : F8 (fun v => Back (.s (.agg [(.int .u64), .slice])) g (.returned v)) x1 s2p s2l s2c i_3 w) : CallT Go.Proofs.Tryd.prog 8 [.agg #[.int .u64 x1, .slice s2p s2l s2c], .int .u64 i_3] (.s (.agg [(.int .u64), .slice])) g w := F8_calls h

/-! ## bitset.BitSet).isLenExactMultiple -/
def F66 (k : Value → W) (b_1 : Option Addr) : W :=
 NN b_1 fun a2 =>
 LoadT (.int .u64) a2 fun x3 =>
 CallT Go.Proofs.Tryd.prog 52 [.int .u64 x3] (.s (.one (.int .u64))) fun x4 =>
 k (.bool (x4 == 0))
theorem F66_eq (k : Value → W) (b_1 : Option Addr) : compF Go.Proofs.Tryd.prog Go.Proofs.Tryd.f66 [] (Go.Proofs.Tryd.f66.body.getD .skip) [.pointer b_1] k = F66 k b_1 := by kernel_rfl
theorem F66_calls {b_1 : Option Addr} {w : World} {R : Ending → World → Prop} (h : F66 (fun v w => R (.returned v) w) b_1 w) : Calls Go.Proofs.Tryd.prog 66 #[.pointer b_1] w R :=
  calls_of_compF noNum follows [] (f := 66) (fn := Go.Proofs.Tryd.f66) (body := Go.Proofs.Tryd.f66.body.getD .skip) (args := [.pointer b_1]) rfl rfl (Nat.le_of_ble_eq_true rfl) ((congrFun (F66_eq _ b_1) w).mpr h)
theorem F66_call {b_1 : Option Addr} {w : World} {g : Fn W (RTy.leaves (.s (.one .bool)))} (h : F66 (fun v => Back (.s (.one .bool)) g (.returned v)) b_1 w) : CallT Go.Proofs.Tryd.prog 66 [.pointer b_1] (.s (.one .bool)) g w := F66_calls h

/-! ## bitset.BitSet).cleanLastWord -/
def F59 (k : Value → W) (b_1 : Option Addr) : W :=
 CallT Go.Proofs.Tryd.prog 66 [.pointer b_1] (.s (.one .bool)) fun b2 =>
 BIf (!b2) (
  Drw <|
  NN b_1 fun a3 =>
  LoadT .slice (a3.add 1) fun s4p s4l s4c =>
  NN b_1 fun a5 =>
  LoadT .slice (a5.add 1) fun s6p s6l s6c =>
  NN s4p fun a7 =>
  Req (0 ≤ subI .i64 ((s6l : Nat) : Int) 1 ∧ subI .i64 ((s6l : Nat) : Int) 1 < ((s4l : Nat) : Int)) <|
  LoadT (.int .u64) (a7.add ((subI .i64 ((s6l : Nat) : Int) 1).toNat)) fun x8 =>
  NN b_1 fun a9 =>
  LoadT (.int .u64) a9 fun x10 =>
  CallT Go.Proofs.Tryd.prog 52 [.int .u64 x10] (.s (.one (.int .u64))) fun x11 =>
  Chk1 (a7.add ((subI .i64 ((s6l : Nat) : Int) 1).toNat)) (.int .u64 x8) <|
  Chk1 (a5.add 1) (.slice s6p s6l s6c) <|
  Chk1 (a3.add 1) (.slice s4p s4l s4c) <|
  Req (0 ≤ subI .u64 64 x11) <|
  NN s4p fun a12 =>
  Req (0 ≤ subI .i64 ((s6l : Nat) : Int) 1 ∧ subI .i64 ((s6l : Nat) : Int) 1 < ((s4l : Nat) : Int)) <|
  Store1 (a12.add ((subI .i64 ((s6l : Nat) : Int) 1).toNat)) (.int .u64 (andI .u64 x8 (shrI .u64 18446744073709551615 (subI .u64 64 x11).toNat))) <|
  k (.tuple #[])) (
  k (.tuple #[]))
theorem F59_eq (k : Value → W) (b_1 : Option Addr) : compF Go.Proofs.Tryd.prog Go.Proofs.Tryd.f59 [] (Go.Proofs.Tryd.f59.body.getD .skip) [.pointer b_1] k = F59 k b_1 := by kernel_rfl
theorem F59_calls {b_1 : Option Addr} {w : World} {R : Ending → World → Prop} (h : F59 (fun v w => R (.returned v) w) b_1 w) : Calls Go.Proofs.Tryd.prog 59 #[.pointer b_1] w R :=
  calls_of_compF noNum follows [] (f := 59) (fn := Go.Proofs.Tryd.f59) (body := Go.Proofs.Tryd.f59.body.getD .skip) (args := [.pointer b_1]) rfl rfl (Nat.le_of_ble_eq_true rfl) ((congrFun (F59_eq _ b_1) w).mpr h)
theorem F59_call {b_1 : Option Addr} {w : World} {g : Fn W (RTy.leaves (.tup []))} (h : F59 (fun v => Back (.tup []) g (.returned v)) b_1 w) : CallT Go.Proofs.Tryd.prog 59 [.pointer b_1] (.tup []) g w := F59_calls h

/-! ## impl.BSLen -/
def F23 (k : Value → W) (x1 : Int) (s2p : Option Addr) (s2l : Nat) (s2c : Nat) : W :=
 New [.int .u64 x1, .slice s2p s2l s2c] 25 fun n3 =>
 LoadT (.int .u64) ⟨n3, 0, none⟩ fun x4 =>
 LoadT .slice ⟨n3, 1, none⟩ fun s5p s5l s5c =>
 CallT Go.Proofs.Tryd.prog 29 [.agg #[.int .u64 x4, .slice s5p s5l s5c]] (.s (.one .ptr)) fun p6 =>
 CallT Go.Proofs.Tryd.prog 44 [.pointer p6] (.s (.one (.int .u64))) fun x7 =>
 k (.int .u64 x7)
theorem F23_eq (k : Value → W) (x1 : Int) (s2p : Option Addr) (s2l : Nat) (s2c : Nat) : compF Go.Proofs.Tryd.prog Go.Proofs.Tryd.f23 [] (Go.Proofs.Tryd.f23.body.getD .skip) [.agg #[.int .u64 x1, .slice s2p s2l s2c]] k = F23 k x1 s2p s2l s2c := by kernel_rfl
theorem F23_calls {x1 : Int} {s2p : Option Addr} {s2l : Nat} {s2c : Nat} {w : World} {R : Ending → World → Prop} (h : F23 (fun v w => R (.returned v) w) x1 s2p s2l s2c w) : Calls Go.Proofs.Tryd.prog 23 #[.agg #[.int .u64 x1, .slice s2p s2l s2c]] w R :=
  calls_of_compF noNum follows [] (f := 23) (fn := Go.Proofs.Tryd.f23) (body := Go.Proofs.Tryd.f23.body.getD .skip) (args := [.agg #[.int .u64 x1, .slice s2p s2l s2c]]) rfl rfl (Nat.le_of_ble_eq_true rfl) ((congrFun (F23_eq _ x1 s2p s2l s2c) w).mpr h)
theorem F23_call {x1 : Int} {s2p : Option Addr} {s2l : Nat} {s2c : Nat} {w : World} {g : Fn W (RTy.leaves (.s (.one (.int .u64))))} (h : F23 (fun v => Back (.s (.one (.int .u64))) g (.returned v)) x1 s2p s2l s2c w) : CallT Go.Proofs.Tryd.prog 23 [.agg #[.int .u64 x1, .slice s2p s2l s2c]] (.s (.one (.int .u64))) g w := F23_calls h

/-! ## bitset.panicIfNull -/
def F55 (k : Value → W) (b_1 : Option Addr) : W :=
 BIf b_1.isNone (
  bot) (
  k (.tuple #[]))
theorem F55_eq (k : Value → W) (b_1 : Option Addr) : compF Go.Proofs.Tryd.prog Go.Proofs.Tryd.f55 [] (Go.Proofs.Tryd.f55.body.getD .skip) [.pointer b_1] k = F55 k b_1 := by kernel_rfl
theorem F55_calls {b_1 : Option Addr} {w : World} {R : Ending → World → Prop} (h : F55 (fun v w => R (.returned v) w) b_1 w) : Calls Go.Proofs.Tryd.prog 55 #[.pointer b_1] w R :=
  calls_of_compF noNum follows [] (f := 55) (fn := Go.Proofs.Tryd.f55) (body := Go.Proofs.Tryd.f55.body.getD .skip) (args := [.pointer b_1]) rfl rfl (Nat.le_of_ble_eq_true rfl) ((congrFun (F55_eq _ b_1) w).mpr h)
theorem F55_call {b_1 : Option Addr} {w : World} {g : Fn W (RTy.leaves (.tup []))} (h : F55 (fun v => Back (.tup []) g (.returned v)) b_1 w) : CallT Go.Proofs.Tryd.prog 55 [.pointer b_1] (.tup []) g w := F55_calls h

/-! ## bitset.sortByLength -/
def F60 (k : Value → W) (a_1 : Option Addr) (b_2 : Option Addr) : W :=
 Drw <|
 NN a_1 fun a3 =>
 LoadT (.int .u64) a3 fun x4 =>
 NN b_2 fun a5 =>
 LoadT (.int .u64) a5 fun x6 =>
 BIf (decide (x4 ≤ x6)) (
  k (.tuple #[.pointer a_1, .pointer b_2])) (
  k (.tuple #[.pointer b_2, .pointer a_1]))
theorem F60_eq (k : Value → W) (a_1 : Option Addr) (b_2 : Option Addr) : compF Go.Proofs.Tryd.prog Go.Proofs.Tryd.f60 [] (Go.Proofs.Tryd.f60.body.getD .skip) [.pointer a_1, .pointer b_2] k = F60 k a_1 b_2 := by kernel_rfl
theorem F60_calls {a_1 : Option Addr} {b_2 : Option Addr} {w : World} {R : Ending → World → Prop} (h : F60 (fun v w => R (.returned v) w) a_1 b_2 w) : Calls Go.Proofs.Tryd.prog 60 #[.pointer a_1, .pointer b_2] w R :=
  calls_of_compF noNum follows [] (f := 60) (fn := Go.Proofs.Tryd.f60) (body := Go.Proofs.Tryd.f60.body.getD .skip) (args := [.pointer a_1, .pointer b_2]) rfl rfl (Nat.le_of_ble_eq_true rfl) ((congrFun (F60_eq _ a_1 b_2) w).mpr h)
theorem F60_call {a_1 : Option Addr} {b_2 : Option Addr} {w : World} {g : Fn W (RTy.leaves (.tup [(.one .ptr), (.one .ptr)]))} (h : F60 (fun v => Back (.tup [(.one .ptr), (.one .ptr)]) g (.returned v)) a_1 b_2 w) : CallT Go.Proofs.Tryd.prog 60 [.pointer a_1, .pointer b_2] (.tup [(.one .ptr), (.one .ptr)]) g w := F60_calls h

/-! ## bitset.BitSet).Intersection -/
def F49_L1 (k : Value → W) (again15 : Option Addr → Option Addr → Option Addr → Nat → Nat → Int → Int → W) (compare_10 : Option Addr) (result_11 : Option Addr) (s12p : Option Addr) (s12l : Nat) (s12c : Nat) (x13 : Int) (x14 : Int) : W :=
 BIf (decide (x14 < x13)) (
  NN s12p fun a16 =>
  Req (0 ≤ x14 ∧ x14 < ((s12l : Nat) : Int)) <|
  LoadT (.int .u64) (a16.add x14.toNat) fun x17 =>
  Drw <|
  NN result_11 fun a18 =>
  LoadT .slice (a18.add 1) fun s19p s19l s19c =>
  NN compare_10 fun a20 =>
  LoadT .slice (a20.add 1) fun s21p s21l s21c =>
  NN s21p fun a22 =>
  Req (0 ≤ x14 ∧ x14 < ((s21l : Nat) : Int)) <|
  LoadT (.int .u64) (a22.add x14.toNat) fun x23 =>
  NN s19p fun a24 =>
  Req (0 ≤ x14 ∧ x14 < ((s19l : Nat) : Int)) <|
  Store1 (a24.add x14.toNat) (.int .u64 (andI .u64 x17 x23)) <|
  again15 compare_10 result_11 s12p s12l s12c x13 (addI .i64 x14 1)) (
  k (.pointer result_11))
theorem F49_L1_rule {k : Value → W} (I : Option Addr → Option Addr → Option Addr → Nat → Nat → Int → Int → W) (μ : Option Addr → Option Addr → Option Addr → Nat → Nat → Int → Int → World → Nat)
  (hr : ∀ (compare_10 : Option Addr) (result_11 : Option Addr) (s12p : Option Addr) (s12l : Nat) (s12c : Nat) (x13 : Int) (x14 : Int) (w : World), I compare_10 result_11 s12p s12l s12c x13 x14 w → F49_L1 k (fun compare_10' result_11' s12p' s12l' s12c' x13' x14' w' => I compare_10' result_11' s12p' s12l' s12c' x13' x14' w' ∧ μ compare_10' result_11' s12p' s12l' s12c' x13' x14' w' < μ compare_10 result_11 s12p s12l s12c x13 x14 w) compare_10 result_11 s12p s12l s12c x13 x14 w)
  {w : World} {compare_10 : Option Addr} {result_11 : Option Addr} {s12p : Option Addr} {s12l : Nat} {s12c : Nat} {x13 : Int} {x14 : Int} (h : I compare_10 result_11 s12p s12l s12c x13 x14 w) : Loop [.ptr, .ptr, .slice, (.int .i64), (.int .i64)] (F49_L1 k) compare_10 result_11 s12p s12l s12c x13 x14 w :=
  Loop_intro (ts := [.ptr, .ptr, .slice, (.int .i64), (.int .i64)]) (s := (compare_10, result_11, (s12p, s12l, s12c), x13, x14, ())) (fun s w => I s.1 s.2.1 s.2.2.1.1 s.2.2.1.2.1 s.2.2.1.2.2 s.2.2.2.1 s.2.2.2.2.1 w) (fun s w => μ s.1 s.2.1 s.2.2.1.1 s.2.2.1.2.1 s.2.2.1.2.2 s.2.2.2.1 s.2.2.2.2.1 w) h (fun s w h => hr s.1 s.2.1 s.2.2.1.1 s.2.2.1.2.1 s.2.2.1.2.2 s.2.2.2.1 s.2.2.2.2.1 w h)
def F49 (k : Value → W) (b_1 : Option Addr) (compare_2 : Option Addr) : W :=
 CallT Go.Proofs.Tryd.prog 55 [.pointer b_1] (.tup []) <|
 CallT Go.Proofs.Tryd.prog 55 [.pointer compare_2] (.tup []) <|
 CallT Go.Proofs.Tryd.prog 60 [.pointer b_1, .pointer compare_2] (.tup [(.one .ptr), (.one .ptr)]) fun p3 p4 =>
 NN p3 fun a5 =>
 LoadT (.int .u64) a5 fun x6 =>
 CallT Go.Proofs.Tryd.prog 50 [.int .u64 x6] (.s (.one .ptr)) fun p7 =>
 NN p3 fun a8 =>
 LoadT .slice (a8.add 1) fun s9p s9l s9c =>
 Loop [.ptr, .ptr, .slice, (.int .i64), (.int .i64)] (F49_L1 k) p4 p7 s9p s9l s9c ((s9l : Nat) : Int) 0
theorem F49_eq (k : Value → W) (b_1 : Option Addr) (compare_2 : Option Addr) : compF Go.Proofs.Tryd.prog Go.Proofs.Tryd.f49 [(6, [(1, .ptr), (4, .ptr), (25, .slice), (26, (.int .i64)), (27, (.int .i64))])] (Go.Proofs.Tryd.f49.body.getD .skip) [.pointer b_1, .pointer compare_2] k = F49 k b_1 compare_2 := by kernel_rfl
theorem F49_calls {b_1 : Option Addr} {compare_2 : Option Addr} {w : World} {R : Ending → World → Prop} (h : F49 (fun v w => R (.returned v) w) b_1 compare_2 w) : Calls Go.Proofs.Tryd.prog 49 #[.pointer b_1, .pointer compare_2] w R :=
  calls_of_compF noNum follows [(6, [(1, .ptr), (4, .ptr), (25, .slice), (26, (.int .i64)), (27, (.int .i64))])] (f := 49) (fn := Go.Proofs.Tryd.f49) (body := Go.Proofs.Tryd.f49.body.getD .skip) (args := [.pointer b_1, .pointer compare_2]) rfl rfl (Nat.le_of_ble_eq_true rfl) ((congrFun (F49_eq _ b_1 compare_2) w).mpr h)
theorem F49_call {b_1 : Option Addr} {compare_2 : Option Addr} {w : World} {g : Fn W (RTy.leaves (.s (.one .ptr)))} (h : F49 (fun v => Back (.s (.one .ptr)) g (.returned v)) b_1 compare_2 w) : CallT Go.Proofs.Tryd.prog 49 [.pointer b_1, .pointer compare_2] (.s (.one .ptr)) g w := F49_calls h

/-! ## impl.BSIntersection -/
def F28 (k : Value → W) (x1 : Int) (s2p : Option Addr) (s2l : Nat) (s2c : Nat) (x3 : Int) (s4p : Option Addr) (s4l : Nat) (s4c : Nat) : W :=
 New [.int .u64 x1, .slice s2p s2l s2c] 25 fun n5 =>
 New [.int .u64 x3, .slice s4p s4l s4c] 25 fun n6 =>
 New [.int .u64 0, .slice none 0 0] 25 fun n7 =>
 Drw <|
 LoadT (.int .u64) ⟨n5, 0, none⟩ fun x8 =>
 LoadT .slice ⟨n5, 1, none⟩ fun s9p s9l s9c =>
 LoadT (.int .u64) ⟨n6, 0, none⟩ fun x10 =>
 LoadT .slice ⟨n6, 1, none⟩ fun s11p s11l s11c =>
 CallT Go.Proofs.Tryd.prog 29 [.agg #[.int .u64 x8, .slice s9p s9l s9c]] (.s (.one .ptr)) fun p12 =>
 Chk1 ⟨n6, 0, none⟩ (.int .u64 x10) <|
 Chk1 ⟨n6, 1, none⟩ (.slice s11p s11l s11c) <|
 CallT Go.Proofs.Tryd.prog 29 [.agg #[.int .u64 x10, .slice s11p s11l s11c]] (.s (.one .ptr)) fun p13 =>
 Chk1 ⟨n5, 0, none⟩ (.int .u64 x8) <|
 Chk1 ⟨n5, 1, none⟩ (.slice s9p s9l s9c) <|
 CallT Go.Proofs.Tryd.prog 49 [.pointer p12, .pointer p13] (.s (.one .ptr)) fun p14 =>
 Chk1 ⟨n6, 0, none⟩ (.int .u64 x10) <|
 Chk1 ⟨n6, 1, none⟩ (.slice s11p s11l s11c) <|
 Chk1 ⟨n5, 0, none⟩ (.int .u64 x8) <|
 Chk1 ⟨n5, 1, none⟩ (.slice s9p s9l s9c) <|
 CallT Go.Proofs.Tryd.prog 31 [.pointer p14] (.s (.agg [(.int .u64), .slice])) fun x15 s16p s16l s16c =>
 Chk1 ⟨n6, 0, none⟩ (.int .u64 x10) <|
 Chk1 ⟨n6, 1, none⟩ (.slice s11p s11l s11c) <|
 Chk1 ⟨n5, 0, none⟩ (.int .u64 x8) <|
 Chk1 ⟨n5, 1, none⟩ (.slice s9p s9l s9c) <|
 Store1 ⟨n7, 0, none⟩ (.int .u64 x15) <|
 Store1 ⟨n7, 1, none⟩ (.slice s16p s16l s16c) <|
 LoadT (.int .u64) ⟨n7, 0, none⟩ fun x17 =>
 LoadT .slice ⟨n7, 1, none⟩ fun s18p s18l s18c =>
 k (.agg #[.int .u64 x17, .slice s18p s18l s18c])
theorem F28_eq (k : Value → W) (x1 : Int) (s2p : Option Addr) (s2l : Nat) (s2c : Nat) (x3 : Int) (s4p : Option Addr) (s4l : Nat) (s4c : Nat) : compF Go.Proofs.Tryd.prog Go.Proofs.Tryd.f28 [] (Go.Proofs.Tryd.f28.body.getD .skip) [.agg #[.int .u64 x1, .slice s2p s2l s2c], .agg #[.int .u64 x3, .slice s4p s4l s4c]] k = F28 k x1 s2p s2l s2c x3 s4p s4l s4c := by kernel_rfl
theorem F28_calls {x1 : Int} {s2p : Option Addr} {s2l : Nat} {s2c : Nat} {x3 : Int} {s4p : Option Addr} {s4l : Nat} {s4c : Nat} {w : World} {R : Ending → World → Prop} (h : F28 (fun v w => R (.returned v) w) x1 s2p s2l s2c x3 s4p s4l s4c w) : Calls Go.Proofs.Tryd.prog 28 #[.agg #[.int .u64 x1, .slice s2p s2l s2c], .agg #[.int .u64 x3, .slice s4p s4l s4c]] w R :=
  calls_of_compF noNum follows [] (f := 28) (fn := Go.Proofs.Tryd.f28) (body := Go.Proofs.Tryd.f28.body.getD .skip) (args := [.agg #[.int .u64 x1, .slice s2p s2l s2c], .agg #[.int .u64 x3, .slice s4p s4l s4c]]) rfl rfl (Nat.le_of_ble_eq_true rfl) ((congrFun (F28_eq _ x1 s2p s2l s2c x3 s4p s4l s4c) w).mpr h)
theorem F28_call {x1 : Int} {s2p : Option Addr} {s2l : Nat} {s2c : Nat} {x3 : Int} {s4p : Option Addr} {s4l : Nat} {s4c : Nat} {w : World} {g : Fn W (RTy.leaves (.s (.agg [(.int .u64), .slice])))} (h : F28 (fun v => Back (.s (.agg [(.int .u64), .slice])) g (.returned v)) x1 s2p s2l s2c x3 s4p s4l s4c w) : CallT Go.Proofs.Tryd.prog 28 [.agg #[.int .u64 x1, .slice s2p s2l s2c], .agg #[.int .u64 x3, .slice s4p s4l s4c]] (.s (.agg [(.int .u64), .slice])) g w := F28_calls h

/-! ## bitset.BitSet).SetAll -/
def F47_L1 (k : Value → W) (again11 : Option Addr → Int → Int → W) (b_8 : Option Addr) (x9 : Int) (x10 : Int) : W :=
 BIf (decide (x10 < x9)) (
  NN b_8 fun a12 =>
  LoadT .slice (a12.add 1) fun s13p s13l s13c =>
  NN s13p fun a14 =>
  Req (0 ≤ x10 ∧ x10 < ((s13l : Nat) : Int)) <|
  Store1 (a14.add x10.toNat) (.int .u64 18446744073709551615) <|
  again11 b_8 x9 (addI .i64 x10 1)) (
  CallT Go.Proofs.Tryd.prog 59 [.pointer b_8] (.tup []) <|
  k (.pointer b_8))
theorem F47_L1_rule {k : Value → W} (I : Option Addr → Int → Int → W) (μ : Option Addr → Int → Int → World → Nat)
  (hr : ∀ (b_8 : Option Addr) (x9 : Int) (x10 : Int) (w : World), I b_8 x9 x10 w → F47_L1 k (fun b_8' x9' x10' w' => I b_8' x9' x10' w' ∧ μ b_8' x9' x10' w' < μ b_8 x9 x10 w) b_8 x9 x10 w)
  {w : World} {b_8 : Option Addr} {x9 : Int} {x10 : Int} (h : I b_8 x9 x10 w) : Loop [.ptr, (.int .i64), (.int .i64)] (F47_L1 k) b_8 x9 x10 w :=
  Loop_intro (ts := [.ptr, (.int .i64), (.int .i64)]) (s := (b_8, x9, x10, ())) (fun s w => I s.1 s.2.1 s.2.2.1 w) (fun s w => μ s.1 s.2.1 s.2.2.1 w) h (fun s w h => hr s.1 s.2.1 s.2.2.1 w h)
def F47_J1 (k : Value → W) (b_4 : Option Addr) (b5 : Bool) : W :=
 BIf b5 (
  NN b_4 fun a6 =>
  LoadT .slice (a6.add 1) fun s7p s7l s7c =>
  Loop [.ptr, (.int .i64), (.int .i64)] (F47_L1 k) b_4 ((s7l : Nat) : Int) 0) (
  k (.pointer b_4))
def F47 (k : Value → W) (b_1 : Option Addr) : W :=
 BIf (!b_1.isNone) (
  NN b_1 fun a2 =>
  LoadT .slice (a2.add 1) fun s3p s3l s3c =>
  F47_J1 k b_1 (!s3p.isNone)) (
  F47_J1 k b_1 false)
theorem F47_eq (k : Value → W) (b_1 : Option Addr) : compF Go.Proofs.Tryd.prog Go.Proofs.Tryd.f47 [(3, [(0, .ptr), (17, (.int .i64)), (18, (.int .i64))])] (Go.Proofs.Tryd.f47.body.getD .skip) [.pointer b_1] k = F47 k b_1 := by kernel_rfl
theorem F47_calls {b_1 : Option Addr} {w : World} {R : Ending → World → Prop} (h : F47 (fun v w => R (.returned v) w) b_1 w) : Calls Go.Proofs.Tryd.prog 47 #[.pointer b_1] w R :=
  calls_of_compF noNum follows [(3, [(0, .ptr), (17, (.int .i64)), (18, (.int .i64))])] (f := 47) (fn := Go.Proofs.Tryd.f47) (body := Go.Proofs.Tryd.f47.body.getD .skip) (args := [.pointer b_1]) rfl rfl (Nat.le_of_ble_eq_true rfl) ((congrFun (F47_eq _ b_1) w).mpr h)
theorem F47_call {b_1 : Option Addr} {w : World} {g : Fn W (RTy.leaves (.s (.one .ptr)))} (h : F47 (fun v => Back (.s (.one .ptr)) g (.returned v)) b_1 w) : CallT Go.Proofs.Tryd.prog 47 [.pointer b_1] (.s (.one .ptr)) g w := F47_calls h

/-! ## impl.BSSetAll -/
def F26 (k : Value → W) (x1 : Int) (s2p : Option Addr) (s2l : Nat) (s2c : Nat) : W :=
 New [.int .u64 x1, .slice s2p s2l s2c] 25 fun n3 =>
 New [.int .u64 0, .slice none 0 0] 25 fun n4 =>
 LoadT (.int .u64) ⟨n3, 0, none⟩ fun x5 =>
 LoadT .slice ⟨n3, 1, none⟩ fun s6p s6l s6c =>
 CallT Go.Proofs.Tryd.prog 29 [.agg #[.int .u64 x5, .slice s6p s6l s6c]] (.s (.one .ptr)) fun p7 =>
 CallT Go.Proofs.Tryd.prog 47 [.pointer p7] (.s (.one .ptr)) fun p8 =>
 CallT Go.Proofs.Tryd.prog 31 [.pointer p7] (.s (.agg [(.int .u64), .slice])) fun x9 s10p s10l s10c =>
 Store1 ⟨n4, 0, none⟩ (.int .u64 x9) <|
 Store1 ⟨n4, 1, none⟩ (.slice s10p s10l s10c) <|
 LoadT (.int .u64) ⟨n4, 0, none⟩ fun x11 =>
 LoadT .slice ⟨n4, 1, none⟩ fun s12p s12l s12c =>
 k (.agg #[.int .u64 x11, .slice s12p s12l s12c])
theorem F26_eq (k : Value → W) (x1 : Int) (s2p : Option Addr) (s2l : Nat) (s2c : Nat) : compF Go.Proofs.Tryd.prog Go.Proofs.Tryd.f26 [] (Go.Proofs.Tryd.f26.body.getD .skip) [.agg #[.int .u64 x1, .slice s2p s2l s2c]] k = F26 k x1 s2p s2l s2c := by kernel_rfl
theorem F26_calls {x1 : Int} {s2p : Option Addr} {s2l : Nat} {s2c : Nat} {w : World} {R : Ending → World → Prop} (h : F26 (fun v w => R (.returned v) w) x1 s2p s2l s2c w) : Calls Go.Proofs.Tryd.prog 26 #[.agg #[.int .u64 x1, .slice s2p s2l s2c]] w R :=
  calls_of_compF noNum follows [] (f := 26) (fn := Go.Proofs.Tryd.f26) (body := Go.Proofs.Tryd.f26.body.getD .skip) (args := [.agg #[.int .u64 x1, .slice s2p s2l s2c]]) rfl rfl (Nat.le_of_ble_eq_true rfl) ((congrFun (F26_eq _ x1 s2p s2l s2c) w).mpr h)
theorem F26_call {x1 : Int} {s2p : Option Addr} {s2l : Nat} {s2c : Nat} {w : World} {g : Fn W (RTy.leaves (.s (.agg [(.int .u64), .slice])))} (h : F26 (fun v => Back (.s (.agg [(.int .u64), .slice])) g (.returned v)) x1 s2p s2l s2c w) : CallT Go.Proofs.Tryd.prog 26 [.agg #[.int .u64 x1, .slice s2p s2l s2c]] (.s (.agg [(.int .u64), .slice])) g w := F26_calls h

end Go.Proofs.YtopdlfecfgimpaaDoor.E
