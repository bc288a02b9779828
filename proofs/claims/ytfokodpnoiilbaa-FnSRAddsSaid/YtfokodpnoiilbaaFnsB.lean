/-
  Printed by this session's own program eng.py out of Lean's print of the loaded functions: what each function's body asks, in the engine's words; each is checked against the program by the kernel.
-/
import Derived.Test.YtfokodpnoiilbaaEng
import Derived.Test.YtfokodpnoiilbaaFnsA
namespace Go.Proofs.Ytfokodpnoiilbaa.E
open Go
set_option linter.unusedVariables false
set_option maxRecDepth 100000
/-! ## spec.SKAt -/
def F35_L1 (k : Value → W) (again6 : Option Addr → Nat → Nat → Int → Int → W) (l_3p : Option Addr) (l_3l : Nat) (l_3c : Nat) (key_4 : Int) (n_5 : Int) : W :=
 BIf (decide (n_5 < ((l_3l : Nat) : Int))) (
  NN l_3p fun a7 =>
  Req (0 ≤ n_5 ∧ n_5 < ((l_3l : Nat) : Int)) <|
  LoadT (.int .i64) (a7.add (n_5.toNat * 2)) fun x8 =>
  BIf (decide (x8 < key_4)) (
   again6 l_3p l_3l l_3c key_4 (addI .i64 n_5 1)) (
   k (.int .i64 n_5))) (
  k (.int .i64 n_5))
theorem F35_L1_rule {k : Value → W} (I : Option Addr → Nat → Nat → Int → Int → W) (μ : Option Addr → Nat → Nat → Int → Int → World → Nat)
  (hr : ∀ (l_3p : Option Addr) (l_3l : Nat) (l_3c : Nat) (key_4 : Int) (n_5 : Int) (w : World), I l_3p l_3l l_3c key_4 n_5 w → F35_L1 k (fun l_3p' l_3l' l_3c' key_4' n_5' w' => I l_3p' l_3l' l_3c' key_4' n_5' w' ∧ μ l_3p' l_3l' l_3c' key_4' n_5' w' < μ l_3p l_3l l_3c key_4 n_5 w) l_3p l_3l l_3c key_4 n_5 w)
  {w : World} {l_3p : Option Addr} {l_3l : Nat} {l_3c : Nat} {key_4 : Int} {n_5 : Int} (h : I l_3p l_3l l_3c key_4 n_5 w) : Loop [.slice, (.int .i64), (.int .i64)] (F35_L1 k) l_3p l_3l l_3c key_4 n_5 w :=
  Loop_intro (ts := [.slice, (.int .i64), (.int .i64)]) (s := ((l_3p, l_3l, l_3c), key_4, n_5, ())) (fun s w => I s.1.1 s.1.2.1 s.1.2.2 s.2.1 s.2.2.1 w) (fun s w => μ s.1.1 s.1.2.1 s.1.2.2 s.2.1 s.2.2.1 w) h (fun s w h => hr s.1.1 s.1.2.1 s.1.2.2 s.2.1 s.2.2.1 w h)
def F35 (k : Value → W) (l_1p : Option Addr) (l_1l : Nat) (l_1c : Nat) (key_2 : Int) : W :=
 Loop [.slice, (.int .i64), (.int .i64)] (F35_L1 k) l_1p l_1l l_1c key_2 0
theorem F35_eq (k : Value → W) (l_1p : Option Addr) (l_1l : Nat) (l_1c : Nat) (key_2 : Int) : compF Go.Proofs.Try.prog Go.Proofs.Try.f35 [(2, [(0, .slice), (1, (.int .i64)), (5, (.int .i64))])] (Go.Proofs.Try.f35.body.getD .skip) [.slice l_1p l_1l l_1c, .int .i64 key_2] k = F35 k l_1p l_1l l_1c key_2 := by kernel_rfl
theorem F35_calls {l_1p : Option Addr} {l_1l : Nat} {l_1c : Nat} {key_2 : Int} {w : World} {R : Ending → World → Prop} (h : F35 (fun v w => R (.returned v) w) l_1p l_1l l_1c key_2 w) : Calls Go.Proofs.Try.prog 35 #[.slice l_1p l_1l l_1c, .int .i64 key_2] w R :=
  calls_of_compF noNum follows [(2, [(0, .slice), (1, (.int .i64)), (5, (.int .i64))])] (f := 35) (fn := Go.Proofs.Try.f35) (body := Go.Proofs.Try.f35.body.getD .skip) (args := [.slice l_1p l_1l l_1c, .int .i64 key_2]) rfl rfl (Nat.le_of_ble_eq_true rfl) ((congrFun (F35_eq _ l_1p l_1l l_1c key_2) w).mpr h)
theorem F35_call {l_1p : Option Addr} {l_1l : Nat} {l_1c : Nat} {key_2 : Int} {w : World} {g : Fn W (RTy.leaves (.s (.one (.int .i64))))} (h : F35 (fun v => Back (.s (.one (.int .i64))) g (.returned v)) l_1p l_1l l_1c key_2 w) : CallT Go.Proofs.Try.prog 35 [.slice l_1p l_1l l_1c, .int .i64 key_2] (.s (.one (.int .i64))) g w := F35_calls h

/-! ## spec.SKGet -/
def F18_J1 (k : Value → W) (l_5p : Option Addr) (l_5l : Nat) (l_5c : Nat) (a6 : Addr) (n_7 : Int) (b8 : Bool) : W :=
 BIf b8 (
  Store1 (a6.add 0) (.int .i64 0) <|
  Store1 (a6.add 1) (.int .i64 0) <|
  LoadT (.int .i64) (a6.add 0) fun x9 =>
  LoadT (.int .i64) (a6.add 1) fun x10 =>
  k (.tuple #[.agg #[.int .i64 x9, .int .i64 x10], .bool false])) (
  NN l_5p fun a11 =>
  Req (0 ≤ n_7 ∧ n_7 < ((l_5l : Nat) : Int)) <|
  LoadT (.int .i64) ((a11.add (n_7.toNat * 2)).add 0) fun x12 =>
  LoadT (.int .i64) ((a11.add (n_7.toNat * 2)).add 1) fun x13 =>
  Store1 (a6.add 0) (.int .i64 x12) <|
  Store1 (a6.add 1) (.int .i64 x13) <|
  LoadT (.int .i64) (a6.add 0) fun x14 =>
  LoadT (.int .i64) (a6.add 1) fun x15 =>
  k (.tuple #[.agg #[.int .i64 x14, .int .i64 x15], .bool true]))
def F18 (k : Value → W) (l_1p : Option Addr) (l_1l : Nat) (l_1c : Nat) (key_2 : Int) : W :=
 New [.int .i64 0, .int .i64 0] 67 fun n3 =>
 CallT Go.Proofs.Try.prog 35 [.slice l_1p l_1l l_1c, .int .i64 key_2] (.s (.one (.int .i64))) fun x4 =>
 BIf (x4 == ((l_1l : Nat) : Int)) (
  F18_J1 k l_1p l_1l l_1c ⟨n3, 0, none⟩ x4 true) (
  NN l_1p fun a16 =>
  Req (0 ≤ x4 ∧ x4 < ((l_1l : Nat) : Int)) <|
  LoadT (.int .i64) (a16.add (x4.toNat * 2)) fun x17 =>
  F18_J1 k l_1p l_1l l_1c ⟨n3, 0, none⟩ x4 (x17 != key_2))
theorem F18_eq (k : Value → W) (l_1p : Option Addr) (l_1l : Nat) (l_1c : Nat) (key_2 : Int) : compF Go.Proofs.Try.prog Go.Proofs.Try.f18 [] (Go.Proofs.Try.f18.body.getD .skip) [.slice l_1p l_1l l_1c, .int .i64 key_2] k = F18 k l_1p l_1l l_1c key_2 := by kernel_rfl
theorem F18_calls {l_1p : Option Addr} {l_1l : Nat} {l_1c : Nat} {key_2 : Int} {w : World} {R : Ending → World → Prop} (h : F18 (fun v w => R (.returned v) w) l_1p l_1l l_1c key_2 w) : Calls Go.Proofs.Try.prog 18 #[.slice l_1p l_1l l_1c, .int .i64 key_2] w R :=
  calls_of_compF noNum follows [] (f := 18) (fn := Go.Proofs.Try.f18) (body := Go.Proofs.Try.f18.body.getD .skip) (args := [.slice l_1p l_1l l_1c, .int .i64 key_2]) rfl rfl (Nat.le_of_ble_eq_true rfl) ((congrFun (F18_eq _ l_1p l_1l l_1c key_2) w).mpr h)
theorem F18_call {l_1p : Option Addr} {l_1l : Nat} {l_1c : Nat} {key_2 : Int} {w : World} {g : Fn W (RTy.leaves (.tup [(.agg [(.int .i64), (.int .i64)]), (.one .bool)]))} (h : F18 (fun v => Back (.tup [(.agg [(.int .i64), (.int .i64)]), (.one .bool)]) g (.returned v)) l_1p l_1l l_1c key_2 w) : CallT Go.Proofs.Try.prog 18 [.slice l_1p l_1l l_1c, .int .i64 key_2] (.tup [(.agg [(.int .i64), (.int .i64)]), (.one .bool)]) g w := F18_calls h

/-! ## spec.SKDrop -/
def F20 (k : Value → W) (l_1p : Option Addr) (l_1l : Nat) (l_1c : Nat) (key_2 : Int) : W :=
 CallT Go.Proofs.Try.prog 18 [.slice l_1p l_1l l_1c, .int .i64 key_2] (.tup [(.agg [(.int .i64), (.int .i64)]), (.one .bool)]) fun x3 x4 b5 =>
 New [.int .i64 0, .int .i64 0] 67 fun n6 =>
 Store1 ⟨n6, 0, none⟩ (.int .i64 x3) <|
 Store1 ⟨n6, 1, none⟩ (.int .i64 x4) <|
 BIf (!b5) (
  k (.slice l_1p l_1l l_1c)) (
  CallT Go.Proofs.Try.prog 35 [.slice l_1p l_1l l_1c, .int .i64 key_2] (.s (.one (.int .i64))) fun x7 =>
  RawT Go.Proofs.Try.prog (Instr.buildSlice 63 0 [].toArray) (.s (.one .slice)) fun s8p s8l s8c =>
  Req (0 ≤ x7 ∧ x7 ≤ ((l_1c : Nat) : Int)) <|
  NextT Go.Proofs.Try.prog (builtin .append #[63, 63] 63 [false, false].toArray [.slice s8p s8l s8c, .slice (sliceA l_1p 0 l_1c 2) (x7.toNat - 0) (l_1c - 0)].toArray) (.s (.one .slice)) fun s9p s9l s9c =>
  Req (0 ≤ addI .i64 x7 1 ∧ addI .i64 x7 1 ≤ ((l_1l : Nat) : Int)) <|
  NextT Go.Proofs.Try.prog (builtin .append #[63, 63] 63 [false, false].toArray [.slice s9p s9l s9c, .slice (sliceA l_1p ((addI .i64 x7 1).toNat) l_1c 2) (l_1l - ((addI .i64 x7 1).toNat)) (l_1c - ((addI .i64 x7 1).toNat))].toArray) (.s (.one .slice)) fun s10p s10l s10c =>
  k (.slice s10p s10l s10c))
theorem F20_eq (k : Value → W) (l_1p : Option Addr) (l_1l : Nat) (l_1c : Nat) (key_2 : Int) : compF Go.Proofs.Try.prog Go.Proofs.Try.f20 [] (Go.Proofs.Try.f20.body.getD .skip) [.slice l_1p l_1l l_1c, .int .i64 key_2] k = F20 k l_1p l_1l l_1c key_2 := by kernel_rfl
theorem F20_calls {l_1p : Option Addr} {l_1l : Nat} {l_1c : Nat} {key_2 : Int} {w : World} {R : Ending → World → Prop} (h : F20 (fun v w => R (.returned v) w) l_1p l_1l l_1c key_2 w) : Calls Go.Proofs.Try.prog 20 #[.slice l_1p l_1l l_1c, .int .i64 key_2] w R :=
  calls_of_compF noNum follows [] (f := 20) (fn := Go.Proofs.Try.f20) (body := Go.Proofs.Try.f20.body.getD .skip) (args := [.slice l_1p l_1l l_1c, .int .i64 key_2]) rfl rfl (Nat.le_of_ble_eq_true rfl) ((congrFun (F20_eq _ l_1p l_1l l_1c key_2) w).mpr h)
theorem F20_call {l_1p : Option Addr} {l_1l : Nat} {l_1c : Nat} {key_2 : Int} {w : World} {g : Fn W (RTy.leaves (.s (.one .slice)))} (h : F20 (fun v => Back (.s (.one .slice)) g (.returned v)) l_1p l_1l l_1c key_2 w) : CallT Go.Proofs.Try.prog 20 [.slice l_1p l_1l l_1c, .int .i64 key_2] (.s (.one .slice)) g w := F20_calls h

/-! ## spec.SKPlace -/
def F38 (k : Value → W) (l_1p : Option Addr) (l_1l : Nat) (l_1c : Nat) (at_2 : Int) (x3 : Int) (x4 : Int) : W :=
 New [.int .i64 x3, .int .i64 x4] 67 fun n5 =>
 NextT Go.Proofs.Try.prog (builtin .min #[3, 3] 3 [false, false].toArray [.int .i64 at_2, .int .i64 ((l_1l : Nat) : Int)].toArray) (.s (.one (.int .i64))) fun x6 =>
 RawT Go.Proofs.Try.prog (Instr.buildSlice 63 0 [].toArray) (.s (.one .slice)) fun s7p s7l s7c =>
 Req (0 ≤ x6 ∧ x6 ≤ ((l_1c : Nat) : Int)) <|
 NextT Go.Proofs.Try.prog (builtin .append #[63, 63] 63 [false, false].toArray [.slice s7p s7l s7c, .slice (sliceA l_1p 0 l_1c 2) (x6.toNat - 0) (l_1c - 0)].toArray) (.s (.one .slice)) fun s8p s8l s8c =>
 Drw <|
 LoadT (.int .i64) ⟨n5, 0, none⟩ fun x9 =>
 LoadT (.int .i64) ⟨n5, 1, none⟩ fun x10 =>
 Req (0 ≤ x6 ∧ x6 ≤ ((l_1l : Nat) : Int)) <|
 RawT Go.Proofs.Try.prog (Instr.buildSlice 63 1 [(0, .agg #[.int .i64 x9, .int .i64 x10])].toArray) (.s (.one .slice)) fun s11p s11l s11c =>
 NextT Go.Proofs.Try.prog (builtin .append #[63, 63] 63 [false, false].toArray [.slice s8p s8l s8c, .slice s11p s11l s11c].toArray) (.s (.one .slice)) fun s12p s12l s12c =>
 Chk1 ⟨n5, 0, none⟩ (.int .i64 x9) <|
 Chk1 ⟨n5, 1, none⟩ (.int .i64 x10) <|
 NextT Go.Proofs.Try.prog (builtin .append #[63, 63] 63 [false, false].toArray [.slice s12p s12l s12c, .slice (sliceA l_1p x6.toNat l_1c 2) (l_1l - x6.toNat) (l_1c - x6.toNat)].toArray) (.s (.one .slice)) fun s13p s13l s13c =>
 Chk1 ⟨n5, 0, none⟩ (.int .i64 x9) <|
 Chk1 ⟨n5, 1, none⟩ (.int .i64 x10) <|
 k (.slice s13p s13l s13c)
theorem F38_eq (k : Value → W) (l_1p : Option Addr) (l_1l : Nat) (l_1c : Nat) (at_2 : Int) (x3 : Int) (x4 : Int) : compF Go.Proofs.Try.prog Go.Proofs.Try.f38 [] (Go.Proofs.Try.f38.body.getD .skip) [.slice l_1p l_1l l_1c, .int .i64 at_2, .agg #[.int .i64 x3, .int .i64 x4]] k = F38 k l_1p l_1l l_1c at_2 x3 x4 := by kernel_rfl
theorem F38_calls {l_1p : Option Addr} {l_1l : Nat} {l_1c : Nat} {at_2 : Int} {x3 : Int} {x4 : Int} {w : World} {R : Ending → World → Prop} (h : F38 (fun v w => R (.returned v) w) l_1p l_1l l_1c at_2 x3 x4 w) : Calls Go.Proofs.Try.prog 38 #[.slice l_1p l_1l l_1c, .int .i64 at_2, .agg #[.int .i64 x3, .int .i64 x4]] w R :=
  calls_of_compF noNum follows [] (f := 38) (fn := Go.Proofs.Try.f38) (body := Go.Proofs.Try.f38.body.getD .skip) (args := [.slice l_1p l_1l l_1c, .int .i64 at_2, .agg #[.int .i64 x3, .int .i64 x4]]) rfl rfl (Nat.le_of_ble_eq_true rfl) ((congrFun (F38_eq _ l_1p l_1l l_1c at_2 x3 x4) w).mpr h)
theorem F38_call {l_1p : Option Addr} {l_1l : Nat} {l_1c : Nat} {at_2 : Int} {x3 : Int} {x4 : Int} {w : World} {g : Fn W (RTy.leaves (.s (.one .slice)))} (h : F38 (fun v => Back (.s (.one .slice)) g (.returned v)) l_1p l_1l l_1c at_2 x3 x4 w) : CallT Go.Proofs.Try.prog 38 [.slice l_1p l_1l l_1c, .int .i64 at_2, .agg #[.int .i64 x3, .int .i64 x4]] (.s (.one .slice)) g w := F38_calls h

/-! ## spec.SKPut -/
def F19 (k : Value → W) (l_1p : Option Addr) (l_1l : Nat) (l_1c : Nat) (x2 : Int) (x3 : Int) : W :=
 New [.int .i64 x2, .int .i64 x3] 67 fun n4 =>
 LoadT (.int .i64) ⟨n4, 0, none⟩ fun x5 =>
 CallT Go.Proofs.Try.prog 20 [.slice l_1p l_1l l_1c, .int .i64 x5] (.s (.one .slice)) fun s6p s6l s6c =>
 Drw <|
 LoadT (.int .i64) ⟨n4, 0, none⟩ fun x7 =>
 LoadT (.int .i64) ⟨n4, 0, none⟩ fun x8 =>
 LoadT (.int .i64) ⟨n4, 1, none⟩ fun x9 =>
 CallT Go.Proofs.Try.prog 35 [.slice s6p s6l s6c, .int .i64 x7] (.s (.one (.int .i64))) fun x10 =>
 Chk1 ⟨n4, 0, none⟩ (.int .i64 x8) <|
 Chk1 ⟨n4, 1, none⟩ (.int .i64 x9) <|
 CallT Go.Proofs.Try.prog 38 [.slice s6p s6l s6c, .int .i64 x10, .agg #[.int .i64 x8, .int .i64 x9]] (.s (.one .slice)) fun s11p s11l s11c =>
 Chk1 ⟨n4, 0, none⟩ (.int .i64 x7) <|
 k (.slice s11p s11l s11c)
theorem F19_eq (k : Value → W) (l_1p : Option Addr) (l_1l : Nat) (l_1c : Nat) (x2 : Int) (x3 : Int) : compF Go.Proofs.Try.prog Go.Proofs.Try.f19 [] (Go.Proofs.Try.f19.body.getD .skip) [.slice l_1p l_1l l_1c, .agg #[.int .i64 x2, .int .i64 x3]] k = F19 k l_1p l_1l l_1c x2 x3 := by kernel_rfl
theorem F19_calls {l_1p : Option Addr} {l_1l : Nat} {l_1c : Nat} {x2 : Int} {x3 : Int} {w : World} {R : Ending → World → Prop} (h : F19 (fun v w => R (.returned v) w) l_1p l_1l l_1c x2 x3 w) : Calls Go.Proofs.Try.prog 19 #[.slice l_1p l_1l l_1c, .agg #[.int .i64 x2, .int .i64 x3]] w R :=
  calls_of_compF noNum follows [] (f := 19) (fn := Go.Proofs.Try.f19) (body := Go.Proofs.Try.f19.body.getD .skip) (args := [.slice l_1p l_1l l_1c, .agg #[.int .i64 x2, .int .i64 x3]]) rfl rfl (Nat.le_of_ble_eq_true rfl) ((congrFun (F19_eq _ l_1p l_1l l_1c x2 x3) w).mpr h)
theorem F19_call {l_1p : Option Addr} {l_1l : Nat} {l_1c : Nat} {x2 : Int} {x3 : Int} {w : World} {g : Fn W (RTy.leaves (.s (.one .slice)))} (h : F19 (fun v => Back (.s (.one .slice)) g (.returned v)) l_1p l_1l l_1c x2 x3 w) : CallT Go.Proofs.Try.prog 19 [.slice l_1p l_1l l_1c, .agg #[.int .i64 x2, .int .i64 x3]] (.s (.one .slice)) g w := F19_calls h

/-! ## laws.skOrder -/
def F8_J3 (k : Value → W) (again8 : Option Addr → Nat → Nat → Option Addr → Nat → Nat → Option Addr → Nat → Nat → Option Addr → Nat → Nat → Int → W) (moves_43p : Option Addr) (moves_43l : Nat) (moves_43c : Nat) (kinds_44p : Option Addr) (kinds_44l : Nat) (kinds_44c : Nat) (steps_45p : Option Addr) (steps_45l : Nat) (steps_45c : Nat) (now_46p : Option Addr) (now_46l : Nat) (now_46c : Nat) (i_47 : Int) (k_48 : Int) (x_49 : Addr) (together_50 : Bool) : W :=
 BIf together_50 (
  Drw <|
  NN steps_45p fun a51 =>
  Req (0 ≤ subI .i64 ((steps_45l : Nat) : Int) 1 ∧ subI .i64 ((steps_45l : Nat) : Int) 1 < ((steps_45l : Nat) : Int)) <|
  LoadT .slice ((a51.add ((subI .i64 ((steps_45l : Nat) : Int) 1).toNat * 5)).add 2) fun s52p s52l s52c =>
  LoadT (.int .i64) (x_49.add 0) fun x53 =>
  LoadT (.int .i64) (x_49.add 1) fun x54 =>
  RawT Go.Proofs.Try.prog (Instr.buildSlice 31 1 [(0, .agg #[.int .i64 x53, .int .i64 x54])].toArray) (.s (.one .slice)) fun s55p s55l s55c =>
  Chk1 ((a51.add ((subI .i64 ((steps_45l : Nat) : Int) 1).toNat * 5)).add 2) (.slice s52p s52l s52c) <|
  NextT Go.Proofs.Try.prog (builtin .append #[31, 31] 31 [false, false].toArray [.slice s52p s52l s52c, .slice s55p s55l s55c].toArray) (.s (.one .slice)) fun s56p s56l s56c =>
  Chk1 (x_49.add 0) (.int .i64 x53) <|
  Chk1 (x_49.add 1) (.int .i64 x54) <|
  NN steps_45p fun a57 =>
  Req (0 ≤ subI .i64 ((steps_45l : Nat) : Int) 1 ∧ subI .i64 ((steps_45l : Nat) : Int) 1 < ((steps_45l : Nat) : Int)) <|
  Store1 ((a57.add ((subI .i64 ((steps_45l : Nat) : Int) 1).toNat * 5)).add 2) (.slice s56p s56l s56c) <|
  again8 moves_43p moves_43l moves_43c kinds_44p kinds_44l kinds_44c steps_45p steps_45l steps_45c now_46p now_46l now_46c (addI .i64 i_47 1)) (
  LoadT (.int .i64) (x_49.add 0) fun x58 =>
  LoadT (.int .i64) (x_49.add 1) fun x59 =>
  RawT Go.Proofs.Try.prog (Instr.buildSlice 31 1 [(0, .agg #[.int .i64 x58, .int .i64 x59])].toArray) (.s (.one .slice)) fun s60p s60l s60c =>
  Req (20 ≠ (0 : Int)) <|
  RawT Go.Proofs.Try.prog (Instr.buildSlice 26 1 [(0, .agg #[.int .i64 k_48, .int .i64 0, .slice s60p s60l s60c, .int .u64 0, .int .i64 (addI .i64 1 (remI i_47 20))])].toArray) (.s (.one .slice)) fun s61p s61l s61c =>
  NextT Go.Proofs.Try.prog (builtin .append #[26, 26] 26 [false, false].toArray [.slice steps_45p steps_45l steps_45c, .slice s61p s61l s61c].toArray) (.s (.one .slice)) fun s62p s62l s62c =>
  again8 moves_43p moves_43l moves_43c kinds_44p kinds_44l kinds_44c s62p s62l s62c now_46p now_46l now_46c (addI .i64 i_47 1))
def F8_J2 (k : Value → W) (again8 : Option Addr → Nat → Nat → Option Addr → Nat → Nat → Option Addr → Nat → Nat → Option Addr → Nat → Nat → Int → W) (moves_32p : Option Addr) (moves_32l : Nat) (moves_32c : Nat) (kinds_33p : Option Addr) (kinds_33l : Nat) (kinds_33c : Nat) (steps_34p : Option Addr) (steps_34l : Nat) (steps_34c : Nat) (now_35p : Option Addr) (now_35l : Nat) (now_35c : Nat) (i_36 : Int) (k_37 : Int) (x_38 : Addr) (together_39 : Bool) : W :=
 BIf (k_37 == 1) (
  LoadT (.int .i64) x_38 fun x40 =>
  LoadT (.int .i64) (x_38.add 1) fun x41 =>
  CallT Go.Proofs.Try.prog 19 [.slice now_35p now_35l now_35c, .agg #[.int .i64 x40, .int .i64 x41]] (.s (.one .slice)) fun s42p s42l s42c =>
  F8_J3 k again8 moves_32p moves_32l moves_32c kinds_33p kinds_33l kinds_33c steps_34p steps_34l steps_34c s42p s42l s42c i_36 k_37 x_38 together_39) (
  BIf (k_37 == 4) (
   LoadT (.int .i64) x_38 fun x63 =>
   CallT Go.Proofs.Try.prog 20 [.slice now_35p now_35l now_35c, .int .i64 x63] (.s (.one .slice)) fun s64p s64l s64c =>
   F8_J3 k again8 moves_32p moves_32l moves_32c kinds_33p kinds_33l kinds_33c steps_34p steps_34l steps_34c s64p s64l s64c i_36 k_37 x_38 together_39) (
   F8_J3 k again8 moves_32p moves_32l moves_32c kinds_33p kinds_33l kinds_33c steps_34p steps_34l steps_34c now_35p now_35l now_35c i_36 k_37 x_38 together_39))
def F8_J1 (k : Value → W) (again8 : Option Addr → Nat → Nat → Option Addr → Nat → Nat → Option Addr → Nat → Nat → Option Addr → Nat → Nat → Int → W) (moves_21p : Option Addr) (moves_21l : Nat) (moves_21c : Nat) (kinds_22p : Option Addr) (kinds_22l : Nat) (kinds_22c : Nat) (steps_23p : Option Addr) (steps_23l : Nat) (steps_23c : Nat) (now_24p : Option Addr) (now_24l : Nat) (now_24c : Nat) (i_25 : Int) (k_26 : Int) (x_27 : Addr) : W :=
 NN moves_21p fun a28 =>
 Req (0 ≤ i_25 ∧ i_25 < ((moves_21l : Nat) : Int)) <|
 LoadT (.int .u16) (a28.add i_25.toNat) fun x29 =>
 Req (8 ≠ (0 : Int)) <|
 Req (2 ≠ (0 : Int)) <|
 BIf ((remI (quoI .u16 x29 8) 2) == 1) (
  BIf (decide (((steps_23l : Nat) : Int) > 0)) (
   NN steps_23p fun a30 =>
   Req (0 ≤ subI .i64 ((steps_23l : Nat) : Int) 1 ∧ subI .i64 ((steps_23l : Nat) : Int) 1 < ((steps_23l : Nat) : Int)) <|
   LoadT (.int .i64) (a30.add ((subI .i64 ((steps_23l : Nat) : Int) 1).toNat * 5)) fun x31 =>
   BIf (x31 == k_26) (
    BIf (k_26 != 3) (
     BIf (k_26 != 5) (
      F8_J2 k again8 moves_21p moves_21l moves_21c kinds_22p kinds_22l kinds_22c steps_23p steps_23l steps_23c now_24p now_24l now_24c i_25 k_26 x_27 (k_26 != 6)) (
      F8_J2 k again8 moves_21p moves_21l moves_21c kinds_22p kinds_22l kinds_22c steps_23p steps_23l steps_23c now_24p now_24l now_24c i_25 k_26 x_27 false)) (
     F8_J2 k again8 moves_21p moves_21l moves_21c kinds_22p kinds_22l kinds_22c steps_23p steps_23l steps_23c now_24p now_24l now_24c i_25 k_26 x_27 false)) (
    F8_J2 k again8 moves_21p moves_21l moves_21c kinds_22p kinds_22l kinds_22c steps_23p steps_23l steps_23c now_24p now_24l now_24c i_25 k_26 x_27 false)) (
   F8_J2 k again8 moves_21p moves_21l moves_21c kinds_22p kinds_22l kinds_22c steps_23p steps_23l steps_23c now_24p now_24l now_24c i_25 k_26 x_27 false)) (
  F8_J2 k again8 moves_21p moves_21l moves_21c kinds_22p kinds_22l kinds_22c steps_23p steps_23l steps_23c now_24p now_24l now_24c i_25 k_26 x_27 false)
def F8_J4 (k : Value → W) (steps_65p : Option Addr) (steps_65l : Nat) (steps_65c : Nat) : W :=
 RawT Go.Proofs.Try.prog (Instr.buildSlice 31 1 [(0, .agg #[.int .i64 (-1), .int .i64 0])].toArray) (.s (.one .slice)) fun s66p s66l s66c =>
 RawT Go.Proofs.Try.prog (Instr.buildSlice 26 2 [(0, .agg #[.int .i64 5, .int .i64 0, .slice s66p s66l s66c, .int .u64 0, .int .i64 100]), (1, .agg #[.int .i64 6, .int .i64 0, .slice none 0 0, .int .u64 0, .int .i64 0])].toArray) (.s (.one .slice)) fun s67p s67l s67c =>
 NextT Go.Proofs.Try.prog (builtin .append #[26, 26] 26 [false, false].toArray [.slice steps_65p steps_65l steps_65c, .slice s67p s67l s67c].toArray) (.s (.one .slice)) fun s68p s68l s68c =>
 k (.slice s68p s68l s68c)
def F8_L1 (k : Value → W) (again8 : Option Addr → Nat → Nat → Option Addr → Nat → Nat → Option Addr → Nat → Nat → Option Addr → Nat → Nat → Int → W) (moves_3p : Option Addr) (moves_3l : Nat) (moves_3c : Nat) (kinds_4p : Option Addr) (kinds_4l : Nat) (kinds_4c : Nat) (steps_5p : Option Addr) (steps_5l : Nat) (steps_5c : Nat) (now_6p : Option Addr) (now_6l : Nat) (now_6c : Nat) (i_7 : Int) : W :=
 BIf (decide (i_7 < ((moves_3l : Nat) : Int))) (
  BIf (decide (i_7 < 80)) (
   NN moves_3p fun a9 =>
   Req (0 ≤ i_7 ∧ i_7 < ((moves_3l : Nat) : Int)) <|
   LoadT (.int .u16) (a9.add i_7.toNat) fun x10 =>
   Req (((kinds_4l : Nat) : Int) ≠ (0 : Int)) <|
   NN kinds_4p fun a11 =>
   Req (0 ≤ remI (IntKind.wrap .i64 x10) ((kinds_4l : Nat) : Int) ∧ remI (IntKind.wrap .i64 x10) ((kinds_4l : Nat) : Int) < ((kinds_4l : Nat) : Int)) <|
   LoadT (.int .i64) (a11.add ((remI (IntKind.wrap .i64 x10) ((kinds_4l : Nat) : Int)).toNat)) fun x12 =>
   NN moves_3p fun a13 =>
   Req (0 ≤ i_7 ∧ i_7 < ((moves_3l : Nat) : Int)) <|
   LoadT (.int .u16) (a13.add i_7.toNat) fun x14 =>
   Req (16 ≠ (0 : Int)) <|
   Req (60 ≠ (0 : Int)) <|
   Bind (remI (IntKind.wrap .i64 (quoI .u16 x14 16)) 60 : Int) fun key_15 =>
   New [.int .i64 0, .int .i64 0] 37 fun n16 =>
   Store1 ⟨n16, 0, none⟩ (.int .i64 key_15) <|
   Store1 ⟨n16, 1, none⟩ (.int .i64 (addI .i64 i_7 1)) <|
   BIf (x12 == 3) (
    CallT Go.Proofs.Try.prog 18 [.slice now_6p now_6l now_6c, .int .i64 key_15] (.tup [(.agg [(.int .i64), (.int .i64)]), (.one .bool)]) fun x17 x18 b19 =>
    New [.int .i64 0, .int .i64 0] 67 fun n20 =>
    Store1 ⟨n20, 0, none⟩ (.int .i64 x17) <|
    Store1 ⟨n20, 1, none⟩ (.int .i64 x18) <|
    BIf (!b19) (
     Store1 ⟨n16, 0, none⟩ (.int .i64 1000) <|
     F8_J1 k again8 moves_3p moves_3l moves_3c kinds_4p kinds_4l kinds_4c steps_5p steps_5l steps_5c now_6p now_6l now_6c i_7 x12 ⟨n16, 0, none⟩) (
     F8_J1 k again8 moves_3p moves_3l moves_3c kinds_4p kinds_4l kinds_4c steps_5p steps_5l steps_5c now_6p now_6l now_6c i_7 x12 ⟨n16, 0, none⟩)) (
    F8_J1 k again8 moves_3p moves_3l moves_3c kinds_4p kinds_4l kinds_4c steps_5p steps_5l steps_5c now_6p now_6l now_6c i_7 x12 ⟨n16, 0, none⟩)) (
   F8_J4 k steps_5p steps_5l steps_5c)) (
  F8_J4 k steps_5p steps_5l steps_5c)
theorem F8_L1_rule {k : Value → W} (I : Option Addr → Nat → Nat → Option Addr → Nat → Nat → Option Addr → Nat → Nat → Option Addr → Nat → Nat → Int → W) (μ : Option Addr → Nat → Nat → Option Addr → Nat → Nat → Option Addr → Nat → Nat → Option Addr → Nat → Nat → Int → World → Nat)
  (hr : ∀ (moves_3p : Option Addr) (moves_3l : Nat) (moves_3c : Nat) (kinds_4p : Option Addr) (kinds_4l : Nat) (kinds_4c : Nat) (steps_5p : Option Addr) (steps_5l : Nat) (steps_5c : Nat) (now_6p : Option Addr) (now_6l : Nat) (now_6c : Nat) (i_7 : Int) (w : World), I moves_3p moves_3l moves_3c kinds_4p kinds_4l kinds_4c steps_5p steps_5l steps_5c now_6p now_6l now_6c i_7 w → F8_L1 k (fun moves_3p' moves_3l' moves_3c' kinds_4p' kinds_4l' kinds_4c' steps_5p' steps_5l' steps_5c' now_6p' now_6l' now_6c' i_7' w' => I moves_3p' moves_3l' moves_3c' kinds_4p' kinds_4l' kinds_4c' steps_5p' steps_5l' steps_5c' now_6p' now_6l' now_6c' i_7' w' ∧ μ moves_3p' moves_3l' moves_3c' kinds_4p' kinds_4l' kinds_4c' steps_5p' steps_5l' steps_5c' now_6p' now_6l' now_6c' i_7' w' < μ moves_3p moves_3l moves_3c kinds_4p kinds_4l kinds_4c steps_5p steps_5l steps_5c now_6p now_6l now_6c i_7 w) moves_3p moves_3l moves_3c kinds_4p kinds_4l kinds_4c steps_5p steps_5l steps_5c now_6p now_6l now_6c i_7 w)
  {w : World} {moves_3p : Option Addr} {moves_3l : Nat} {moves_3c : Nat} {kinds_4p : Option Addr} {kinds_4l : Nat} {kinds_4c : Nat} {steps_5p : Option Addr} {steps_5l : Nat} {steps_5c : Nat} {now_6p : Option Addr} {now_6l : Nat} {now_6c : Nat} {i_7 : Int} (h : I moves_3p moves_3l moves_3c kinds_4p kinds_4l kinds_4c steps_5p steps_5l steps_5c now_6p now_6l now_6c i_7 w) : Loop [.slice, .slice, .slice, .slice, (.int .i64)] (F8_L1 k) moves_3p moves_3l moves_3c kinds_4p kinds_4l kinds_4c steps_5p steps_5l steps_5c now_6p now_6l now_6c i_7 w :=
  Loop_intro (ts := [.slice, .slice, .slice, .slice, (.int .i64)]) (s := ((moves_3p, moves_3l, moves_3c), (kinds_4p, kinds_4l, kinds_4c), (steps_5p, steps_5l, steps_5c), (now_6p, now_6l, now_6c), i_7, ())) (fun s w => I s.1.1 s.1.2.1 s.1.2.2 s.2.1.1 s.2.1.2.1 s.2.1.2.2 s.2.2.1.1 s.2.2.1.2.1 s.2.2.1.2.2 s.2.2.2.1.1 s.2.2.2.1.2.1 s.2.2.2.1.2.2 s.2.2.2.2.1 w) (fun s w => μ s.1.1 s.1.2.1 s.1.2.2 s.2.1.1 s.2.1.2.1 s.2.1.2.2 s.2.2.1.1 s.2.2.1.2.1 s.2.2.1.2.2 s.2.2.2.1.1 s.2.2.2.1.2.1 s.2.2.2.1.2.2 s.2.2.2.2.1 w) h (fun s w h => hr s.1.1 s.1.2.1 s.1.2.2 s.2.1.1 s.2.1.2.1 s.2.1.2.2 s.2.2.1.1 s.2.2.1.2.1 s.2.2.1.2.2 s.2.2.2.1.1 s.2.2.2.1.2.1 s.2.2.2.1.2.2 s.2.2.2.2.1 w h)
def F8 (k : Value → W) (moves_1p : Option Addr) (moves_1l : Nat) (moves_1c : Nat) (kinds_2p : Option Addr) (kinds_2l : Nat) (kinds_2c : Nat) : W :=
 Loop [.slice, .slice, .slice, .slice, (.int .i64)] (F8_L1 k) moves_1p moves_1l moves_1c kinds_2p kinds_2l kinds_2c none 0 0 none 0 0 0
theorem F8_eq (k : Value → W) (moves_1p : Option Addr) (moves_1l : Nat) (moves_1c : Nat) (kinds_2p : Option Addr) (kinds_2l : Nat) (kinds_2c : Nat) : compF Go.Proofs.Try.prog Go.Proofs.Try.f8 [(4, [(0, .slice), (1, .slice), (5, .slice), (6, .slice), (7, (.int .i64))])] (Go.Proofs.Try.f8.body.getD .skip) [.slice moves_1p moves_1l moves_1c, .slice kinds_2p kinds_2l kinds_2c] k = F8 k moves_1p moves_1l moves_1c kinds_2p kinds_2l kinds_2c := by kernel_rfl
theorem F8_calls {moves_1p : Option Addr} {moves_1l : Nat} {moves_1c : Nat} {kinds_2p : Option Addr} {kinds_2l : Nat} {kinds_2c : Nat} {w : World} {R : Ending → World → Prop} (h : F8 (fun v w => R (.returned v) w) moves_1p moves_1l moves_1c kinds_2p kinds_2l kinds_2c w) : Calls Go.Proofs.Try.prog 8 #[.slice moves_1p moves_1l moves_1c, .slice kinds_2p kinds_2l kinds_2c] w R :=
  calls_of_compF noNum follows [(4, [(0, .slice), (1, .slice), (5, .slice), (6, .slice), (7, (.int .i64))])] (f := 8) (fn := Go.Proofs.Try.f8) (body := Go.Proofs.Try.f8.body.getD .skip) (args := [.slice moves_1p moves_1l moves_1c, .slice kinds_2p kinds_2l kinds_2c]) rfl rfl (Nat.le_of_ble_eq_true rfl) ((congrFun (F8_eq _ moves_1p moves_1l moves_1c kinds_2p kinds_2l kinds_2c) w).mpr h)
theorem F8_call {moves_1p : Option Addr} {moves_1l : Nat} {moves_1c : Nat} {kinds_2p : Option Addr} {kinds_2l : Nat} {kinds_2c : Nat} {w : World} {g : Fn W (RTy.leaves (.s (.one .slice)))} (h : F8 (fun v => Back (.s (.one .slice)) g (.returned v)) moves_1p moves_1l moves_1c kinds_2p kinds_2l kinds_2c w) : CallT Go.Proofs.Try.prog 8 [.slice moves_1p moves_1l moves_1c, .slice kinds_2p kinds_2l kinds_2c] (.s (.one .slice)) g w := F8_calls h

/-! ## impl.SkipAnswer).keep -/
def F46 (k : Value → W) (a_1 : Option Addr) (x_2 : Value) : W :=
 RawS Go.Proofs.Try.prog (Instr.typeAssert x_2 114 118 true) (.tup [(.agg [(.int .i64), (.int .i64)]), (.one .bool)]) fun x3 x4 b5 =>
 New [.int .i64 0, .int .i64 0] 118 fun n6 =>
 Store1 ⟨n6, 0, none⟩ (.int .i64 x3) <|
 Store1 ⟨n6, 1, none⟩ (.int .i64 x4) <|
 Drw <|
 NN a_1 fun a7 =>
 LoadT .slice a7 fun s8p s8l s8c =>
 LoadT (.int .i64) ⟨n6, 0, none⟩ fun x9 =>
 LoadT (.int .i64) ⟨n6, 1, none⟩ fun x10 =>
 NN a_1 fun a11 =>
 LoadT .slice (a11.add 1) fun s12p s12l s12c =>
 Both (
  RawT Go.Proofs.Try.prog (Instr.buildSlice 31 1 [(0, .agg #[.int .i64 x9, .int .i64 x10])].toArray) (.s (.one .slice)) fun s13p s13l s13c =>
  Chk1 (a11.add 1) (.slice s12p s12l s12c) <|
  Chk1 a7 (.slice s8p s8l s8c) <|
  Both (
   NextT Go.Proofs.Try.prog (builtin .append #[31, 31] 31 [false, false].toArray [.slice s8p s8l s8c, .slice s13p s13l s13c].toArray) (.s (.one .slice)) fun s14p s14l s14c =>
   Chk1 (a11.add 1) (.slice s12p s12l s12c) <|
   Chk1 ⟨n6, 0, none⟩ (.int .i64 x9) <|
   Chk1 ⟨n6, 1, none⟩ (.int .i64 x10) <|
   RawT Go.Proofs.Try.prog (Instr.buildSlice 32 1 [(0, .bool b5)].toArray) (.s (.one .slice)) fun s15p s15l s15c =>
   Chk1 (a11.add 1) (.slice s12p s12l s12c) <|
   Chk1 ⟨n6, 0, none⟩ (.int .i64 x9) <|
   Chk1 ⟨n6, 1, none⟩ (.int .i64 x10) <|
   Chk1 a7 (.slice s8p s8l s8c) <|
   NextT Go.Proofs.Try.prog (builtin .append #[32, 32] 32 [false, false].toArray [.slice s12p s12l s12c, .slice s15p s15l s15c].toArray) (.s (.one .slice)) fun s16p s16l s16c =>
   Chk1 ⟨n6, 0, none⟩ (.int .i64 x9) <|
   Chk1 ⟨n6, 1, none⟩ (.int .i64 x10) <|
   Chk1 a7 (.slice s8p s8l s8c) <|
   NN a_1 fun a17 =>
   Store1 a17 (.slice s14p s14l s14c) <|
   NN a_1 fun a18 =>
   Store1 (a18.add 1) (.slice s16p s16l s16c) <|
   k (.tuple #[])) (
   RawT Go.Proofs.Try.prog (Instr.buildSlice 32 1 [(0, .bool b5)].toArray) (.s (.one .slice)) fun s19p s19l s19c =>
   Chk1 (a11.add 1) (.slice s12p s12l s12c) <|
   Chk1 ⟨n6, 0, none⟩ (.int .i64 x9) <|
   Chk1 ⟨n6, 1, none⟩ (.int .i64 x10) <|
   Chk1 a7 (.slice s8p s8l s8c) <|
   NextT Go.Proofs.Try.prog (builtin .append #[31, 31] 31 [false, false].toArray [.slice s8p s8l s8c, .slice s13p s13l s13c].toArray) (.s (.one .slice)) fun s20p s20l s20c =>
   Chk1 (a11.add 1) (.slice s12p s12l s12c) <|
   Chk1 ⟨n6, 0, none⟩ (.int .i64 x9) <|
   Chk1 ⟨n6, 1, none⟩ (.int .i64 x10) <|
   NextT Go.Proofs.Try.prog (builtin .append #[32, 32] 32 [false, false].toArray [.slice s12p s12l s12c, .slice s19p s19l s19c].toArray) (.s (.one .slice)) fun s21p s21l s21c =>
   Chk1 ⟨n6, 0, none⟩ (.int .i64 x9) <|
   Chk1 ⟨n6, 1, none⟩ (.int .i64 x10) <|
   Chk1 a7 (.slice s8p s8l s8c) <|
   NN a_1 fun a22 =>
   Store1 a22 (.slice s20p s20l s20c) <|
   NN a_1 fun a23 =>
   Store1 (a23.add 1) (.slice s21p s21l s21c) <|
   k (.tuple #[]))) (
  RawT Go.Proofs.Try.prog (Instr.buildSlice 32 1 [(0, .bool b5)].toArray) (.s (.one .slice)) fun s24p s24l s24c =>
  Chk1 (a11.add 1) (.slice s12p s12l s12c) <|
  Chk1 ⟨n6, 0, none⟩ (.int .i64 x9) <|
  Chk1 ⟨n6, 1, none⟩ (.int .i64 x10) <|
  Chk1 a7 (.slice s8p s8l s8c) <|
  RawT Go.Proofs.Try.prog (Instr.buildSlice 31 1 [(0, .agg #[.int .i64 x9, .int .i64 x10])].toArray) (.s (.one .slice)) fun s25p s25l s25c =>
  Chk1 (a11.add 1) (.slice s12p s12l s12c) <|
  Chk1 a7 (.slice s8p s8l s8c) <|
  NextT Go.Proofs.Try.prog (builtin .append #[31, 31] 31 [false, false].toArray [.slice s8p s8l s8c, .slice s25p s25l s25c].toArray) (.s (.one .slice)) fun s26p s26l s26c =>
  Chk1 (a11.add 1) (.slice s12p s12l s12c) <|
  Chk1 ⟨n6, 0, none⟩ (.int .i64 x9) <|
  Chk1 ⟨n6, 1, none⟩ (.int .i64 x10) <|
  NextT Go.Proofs.Try.prog (builtin .append #[32, 32] 32 [false, false].toArray [.slice s12p s12l s12c, .slice s24p s24l s24c].toArray) (.s (.one .slice)) fun s27p s27l s27c =>
  Chk1 ⟨n6, 0, none⟩ (.int .i64 x9) <|
  Chk1 ⟨n6, 1, none⟩ (.int .i64 x10) <|
  Chk1 a7 (.slice s8p s8l s8c) <|
  NN a_1 fun a28 =>
  Store1 a28 (.slice s26p s26l s26c) <|
  NN a_1 fun a29 =>
  Store1 (a29.add 1) (.slice s27p s27l s27c) <|
  k (.tuple #[]))
theorem F46_eq (k : Value → W) (a_1 : Option Addr) (x_2 : Value) : compF Go.Proofs.Try.prog Go.Proofs.Try.f46 [] (Go.Proofs.Try.f46.body.getD .skip) [.pointer a_1, x_2] k = F46 k a_1 x_2 := by kernel_rfl
theorem F46_calls {a_1 : Option Addr} {x_2 : Value} {w : World} {R : Ending → World → Prop} (h : F46 (fun v w => R (.returned v) w) a_1 x_2 w) : Calls Go.Proofs.Try.prog 46 #[.pointer a_1, x_2] w R :=
  calls_of_compF noNum follows [] (f := 46) (fn := Go.Proofs.Try.f46) (body := Go.Proofs.Try.f46.body.getD .skip) (args := [.pointer a_1, x_2]) rfl rfl (Nat.le_of_ble_eq_true rfl) ((congrFun (F46_eq _ a_1 x_2) w).mpr h)
theorem F46_call {a_1 : Option Addr} {x_2 : Value} {w : World} {g : Fn W (RTy.leaves (.tup []))} (h : F46 (fun v => Back (.tup []) g (.returned v)) a_1 x_2 w) : CallT Go.Proofs.Try.prog 46 [.pointer a_1, x_2] (.tup []) g w := F46_calls h

/-! ## impl.SkipAnswer).keepAll -/
def F40_L1 (k : Value → W) (again7 : Option Addr → Option Addr → Nat → Nat → Int → Int → W) (a_3 : Option Addr) (s4p : Option Addr) (s4l : Nat) (s4c : Nat) (x5 : Int) (x6 : Int) : W :=
 BIf (decide (x6 < x5)) (
  NN s4p fun a8 =>
  Req (0 ≤ x6 ∧ x6 < ((s4l : Nat) : Int)) <|
  LoadT .any (a8.add x6.toNat) fun v9 =>
  CallT Go.Proofs.Try.prog 46 [.pointer a_3, v9] (.tup []) <|
  again7 a_3 s4p s4l s4c x5 (addI .i64 x6 1)) (
  k (.tuple #[]))
theorem F40_L1_rule {k : Value → W} (I : Option Addr → Option Addr → Nat → Nat → Int → Int → W) (μ : Option Addr → Option Addr → Nat → Nat → Int → Int → World → Nat)
  (hr : ∀ (a_3 : Option Addr) (s4p : Option Addr) (s4l : Nat) (s4c : Nat) (x5 : Int) (x6 : Int) (w : World), I a_3 s4p s4l s4c x5 x6 w → F40_L1 k (fun a_3' s4p' s4l' s4c' x5' x6' w' => I a_3' s4p' s4l' s4c' x5' x6' w' ∧ μ a_3' s4p' s4l' s4c' x5' x6' w' < μ a_3 s4p s4l s4c x5 x6 w) a_3 s4p s4l s4c x5 x6 w)
  {w : World} {a_3 : Option Addr} {s4p : Option Addr} {s4l : Nat} {s4c : Nat} {x5 : Int} {x6 : Int} (h : I a_3 s4p s4l s4c x5 x6 w) : Loop [.ptr, .slice, (.int .i64), (.int .i64)] (F40_L1 k) a_3 s4p s4l s4c x5 x6 w :=
  Loop_intro (ts := [.ptr, .slice, (.int .i64), (.int .i64)]) (s := (a_3, (s4p, s4l, s4c), x5, x6, ())) (fun s w => I s.1 s.2.1.1 s.2.1.2.1 s.2.1.2.2 s.2.2.1 s.2.2.2.1 w) (fun s w => μ s.1 s.2.1.1 s.2.1.2.1 s.2.1.2.2 s.2.2.1 s.2.2.2.1 w) h (fun s w h => hr s.1 s.2.1.1 s.2.1.2.1 s.2.1.2.2 s.2.2.1 s.2.2.2.1 w h)
def F40 (k : Value → W) (a_1 : Option Addr) (l_2p : Option Addr) (l_2l : Nat) (l_2c : Nat) : W :=
 Loop [.ptr, .slice, (.int .i64), (.int .i64)] (F40_L1 k) a_1 l_2p l_2l l_2c ((l_2l : Nat) : Int) 0
theorem F40_eq (k : Value → W) (a_1 : Option Addr) (l_2p : Option Addr) (l_2l : Nat) (l_2c : Nat) : compF Go.Proofs.Try.prog Go.Proofs.Try.f40 [(1, [(0, .ptr), (6, .slice), (7, (.int .i64)), (8, (.int .i64))])] (Go.Proofs.Try.f40.body.getD .skip) [.pointer a_1, .slice l_2p l_2l l_2c] k = F40 k a_1 l_2p l_2l l_2c := by kernel_rfl
theorem F40_calls {a_1 : Option Addr} {l_2p : Option Addr} {l_2l : Nat} {l_2c : Nat} {w : World} {R : Ending → World → Prop} (h : F40 (fun v w => R (.returned v) w) a_1 l_2p l_2l l_2c w) : Calls Go.Proofs.Try.prog 40 #[.pointer a_1, .slice l_2p l_2l l_2c] w R :=
  calls_of_compF noNum follows [(1, [(0, .ptr), (6, .slice), (7, (.int .i64)), (8, (.int .i64))])] (f := 40) (fn := Go.Proofs.Try.f40) (body := Go.Proofs.Try.f40.body.getD .skip) (args := [.pointer a_1, .slice l_2p l_2l l_2c]) rfl rfl (Nat.le_of_ble_eq_true rfl) ((congrFun (F40_eq _ a_1 l_2p l_2l l_2c) w).mpr h)
theorem F40_call {a_1 : Option Addr} {l_2p : Option Addr} {l_2l : Nat} {l_2c : Nat} {w : World} {g : Fn W (RTy.leaves (.tup []))} (h : F40 (fun v => Back (.tup []) g (.returned v)) a_1 l_2p l_2l l_2c w) : CallT Go.Proofs.Try.prog 40 [.pointer a_1, .slice l_2p l_2l l_2c] (.tup []) g w := F40_calls h

/-! ## impl.skipItems -/
def F42_L1 (k : Value → W) (again6 : Option Addr → Nat → Nat → Option Addr → Nat → Nat → Int → Int → W) (out_2p : Option Addr) (out_2l : Nat) (out_2c : Nat) (s3p : Option Addr) (s3l : Nat) (s3c : Nat) (x4 : Int) (x5 : Int) : W :=
 BIf (decide (x5 < x4)) (
  NN s3p fun a7 =>
  Req (0 ≤ x5 ∧ x5 < ((s3l : Nat) : Int)) <|
  LoadT (.int .i64) ((a7.add (x5.toNat * 2)).add 0) fun x8 =>
  LoadT (.int .i64) ((a7.add (x5.toNat * 2)).add 1) fun x9 =>
  New [.int .i64 0, .int .i64 0] 37 fun n10 =>
  Store1 ⟨n10, 0, none⟩ (.int .i64 x8) <|
  Store1 ⟨n10, 1, none⟩ (.int .i64 x9) <|
  LoadT (.int .i64) ⟨n10, 0, none⟩ fun x11 =>
  LoadT (.int .i64) ⟨n10, 1, none⟩ fun x12 =>
  RawT Go.Proofs.Try.prog (Instr.buildSlice 109 1 [(0, .iface 118 (.agg #[.int .i64 x11, .int .i64 x12]))].toArray) (.s (.one .slice)) fun s13p s13l s13c =>
  NextT Go.Proofs.Try.prog (builtin .append #[109, 109] 109 [false, false].toArray [.slice out_2p out_2l out_2c, .slice s13p s13l s13c].toArray) (.s (.one .slice)) fun s14p s14l s14c =>
  again6 s14p s14l s14c s3p s3l s3c x4 (addI .i64 x5 1)) (
  k (.slice out_2p out_2l out_2c))
theorem F42_L1_rule {k : Value → W} (I : Option Addr → Nat → Nat → Option Addr → Nat → Nat → Int → Int → W) (μ : Option Addr → Nat → Nat → Option Addr → Nat → Nat → Int → Int → World → Nat)
  (hr : ∀ (out_2p : Option Addr) (out_2l : Nat) (out_2c : Nat) (s3p : Option Addr) (s3l : Nat) (s3c : Nat) (x4 : Int) (x5 : Int) (w : World), I out_2p out_2l out_2c s3p s3l s3c x4 x5 w → F42_L1 k (fun out_2p' out_2l' out_2c' s3p' s3l' s3c' x4' x5' w' => I out_2p' out_2l' out_2c' s3p' s3l' s3c' x4' x5' w' ∧ μ out_2p' out_2l' out_2c' s3p' s3l' s3c' x4' x5' w' < μ out_2p out_2l out_2c s3p s3l s3c x4 x5 w) out_2p out_2l out_2c s3p s3l s3c x4 x5 w)
  {w : World} {out_2p : Option Addr} {out_2l : Nat} {out_2c : Nat} {s3p : Option Addr} {s3l : Nat} {s3c : Nat} {x4 : Int} {x5 : Int} (h : I out_2p out_2l out_2c s3p s3l s3c x4 x5 w) : Loop [.slice, .slice, (.int .i64), (.int .i64)] (F42_L1 k) out_2p out_2l out_2c s3p s3l s3c x4 x5 w :=
  Loop_intro (ts := [.slice, .slice, (.int .i64), (.int .i64)]) (s := ((out_2p, out_2l, out_2c), (s3p, s3l, s3c), x4, x5, ())) (fun s w => I s.1.1 s.1.2.1 s.1.2.2 s.2.1.1 s.2.1.2.1 s.2.1.2.2 s.2.2.1 s.2.2.2.1 w) (fun s w => μ s.1.1 s.1.2.1 s.1.2.2 s.2.1.1 s.2.1.2.1 s.2.1.2.2 s.2.2.1 s.2.2.2.1 w) h (fun s w h => hr s.1.1 s.1.2.1 s.1.2.2 s.2.1.1 s.2.1.2.1 s.2.1.2.2 s.2.2.1 s.2.2.2.1 w h)
def F42 (k : Value → W) (l_1p : Option Addr) (l_1l : Nat) (l_1c : Nat) : W :=
 Loop [.slice, .slice, (.int .i64), (.int .i64)] (F42_L1 k) none 0 0 l_1p l_1l l_1c ((l_1l : Nat) : Int) 0
theorem F42_eq (k : Value → W) (l_1p : Option Addr) (l_1l : Nat) (l_1c : Nat) : compF Go.Proofs.Try.prog Go.Proofs.Try.f42 [(3, [(3, .slice), (6, .slice), (7, (.int .i64)), (8, (.int .i64))])] (Go.Proofs.Try.f42.body.getD .skip) [.slice l_1p l_1l l_1c] k = F42 k l_1p l_1l l_1c := by kernel_rfl
theorem F42_calls {l_1p : Option Addr} {l_1l : Nat} {l_1c : Nat} {w : World} {R : Ending → World → Prop} (h : F42 (fun v w => R (.returned v) w) l_1p l_1l l_1c w) : Calls Go.Proofs.Try.prog 42 #[.slice l_1p l_1l l_1c] w R :=
  calls_of_compF noNum follows [(3, [(3, .slice), (6, .slice), (7, (.int .i64)), (8, (.int .i64))])] (f := 42) (fn := Go.Proofs.Try.f42) (body := Go.Proofs.Try.f42.body.getD .skip) (args := [.slice l_1p l_1l l_1c]) rfl rfl (Nat.le_of_ble_eq_true rfl) ((congrFun (F42_eq _ l_1p l_1l l_1c) w).mpr h)
theorem F42_call {l_1p : Option Addr} {l_1l : Nat} {l_1c : Nat} {w : World} {g : Fn W (RTy.leaves (.s (.one .slice)))} (h : F42 (fun v => Back (.s (.one .slice)) g (.returned v)) l_1p l_1l l_1c w) : CallT Go.Proofs.Try.prog 42 [.slice l_1p l_1l l_1c] (.s (.one .slice)) g w := F42_calls h

/-! ## impl.skipFirst -/
def F45 (k : Value → W) (l_1p : Option Addr) (l_1l : Nat) (l_1c : Nat) : W :=
 New [.int .i64 0, .int .i64 0] 118 fun n2 =>
 BIf (((l_1l : Nat) : Int) == 0) (
  Store1 ⟨n2, 0, none⟩ (.int .i64 0) <|
  Store1 ⟨n2, 1, none⟩ (.int .i64 0) <|
  LoadT (.int .i64) ⟨n2, 0, none⟩ fun x3 =>
  LoadT (.int .i64) ⟨n2, 1, none⟩ fun x4 =>
  k (.agg #[.int .i64 x3, .int .i64 x4])) (
  NN l_1p fun a5 =>
  Req (0 ≤ (0 : Int) ∧ (0 : Int) < ((l_1l : Nat) : Int)) <|
  LoadT (.int .i64) ((a5.add ((0 : Int).toNat * 2)).add 0) fun x6 =>
  LoadT (.int .i64) ((a5.add ((0 : Int).toNat * 2)).add 1) fun x7 =>
  Store1 ⟨n2, 0, none⟩ (.int .i64 x6) <|
  Store1 ⟨n2, 1, none⟩ (.int .i64 x7) <|
  LoadT (.int .i64) ⟨n2, 0, none⟩ fun x8 =>
  LoadT (.int .i64) ⟨n2, 1, none⟩ fun x9 =>
  k (.agg #[.int .i64 x8, .int .i64 x9]))
theorem F45_eq (k : Value → W) (l_1p : Option Addr) (l_1l : Nat) (l_1c : Nat) : compF Go.Proofs.Try.prog Go.Proofs.Try.f45 [] (Go.Proofs.Try.f45.body.getD .skip) [.slice l_1p l_1l l_1c] k = F45 k l_1p l_1l l_1c := by kernel_rfl
theorem F45_calls {l_1p : Option Addr} {l_1l : Nat} {l_1c : Nat} {w : World} {R : Ending → World → Prop} (h : F45 (fun v w => R (.returned v) w) l_1p l_1l l_1c w) : Calls Go.Proofs.Try.prog 45 #[.slice l_1p l_1l l_1c] w R :=
  calls_of_compF noNum follows [] (f := 45) (fn := Go.Proofs.Try.f45) (body := Go.Proofs.Try.f45.body.getD .skip) (args := [.slice l_1p l_1l l_1c]) rfl rfl (Nat.le_of_ble_eq_true rfl) ((congrFun (F45_eq _ l_1p l_1l l_1c) w).mpr h)
theorem F45_call {l_1p : Option Addr} {l_1l : Nat} {l_1c : Nat} {w : World} {g : Fn W (RTy.leaves (.s (.agg [(.int .i64), (.int .i64)])))} (h : F45 (fun v => Back (.s (.agg [(.int .i64), (.int .i64)])) g (.returned v)) l_1p l_1l l_1c w) : CallT Go.Proofs.Try.prog 45 [.slice l_1p l_1l l_1c] (.s (.agg [(.int .i64), (.int .i64)])) g w := F45_calls h

/-! ## impl.SkipAnswer).walk -/
def F48_L1 (k : Value → W) (again7 : Option Addr → Value → Int → W) (a_4 : Option Addr) (it_5 : Value) (most_6 : Int) : W :=
 NN a_4 fun a8 =>
 LoadT .slice a8 fun s9p s9l s9c =>
 BIf (decide (((s9l : Nat) : Int) < most_6)) (
  NextT Go.Proofs.Try.prog (callMethod it_5 "Next" [].toArray) (.s (.one .bool)) fun b10 =>
  BIf b10 (
   NextT Go.Proofs.Try.prog (callMethod it_5 "Value" [].toArray) (.s (.one .any)) fun v11 =>
   CallT Go.Proofs.Try.prog 46 [.pointer a_4, v11] (.tup []) <|
   again7 a_4 it_5 most_6) (
   k (.tuple #[]))) (
  k (.tuple #[]))
theorem F48_L1_rule {k : Value → W} (I : Option Addr → Value → Int → W) (μ : Option Addr → Value → Int → World → Nat)
  (hr : ∀ (a_4 : Option Addr) (it_5 : Value) (most_6 : Int) (w : World), I a_4 it_5 most_6 w → F48_L1 k (fun a_4' it_5' most_6' w' => I a_4' it_5' most_6' w' ∧ μ a_4' it_5' most_6' w' < μ a_4 it_5 most_6 w) a_4 it_5 most_6 w)
  {w : World} {a_4 : Option Addr} {it_5 : Value} {most_6 : Int} (h : I a_4 it_5 most_6 w) : Loop [.ptr, .any, (.int .i64)] (F48_L1 k) a_4 it_5 most_6 w :=
  Loop_intro (ts := [.ptr, .any, (.int .i64)]) (s := (a_4, it_5, most_6, ())) (fun s w => I s.1 s.2.1 s.2.2.1 w) (fun s w => μ s.1 s.2.1 s.2.2.1 w) h (fun s w h => hr s.1 s.2.1 s.2.2.1 w h)
def F48 (k : Value → W) (a_1 : Option Addr) (it_2 : Value) (most_3 : Int) : W :=
 Loop [.ptr, .any, (.int .i64)] (F48_L1 k) a_1 it_2 most_3
theorem F48_eq (k : Value → W) (a_1 : Option Addr) (it_2 : Value) (most_3 : Int) : compF Go.Proofs.Try.prog Go.Proofs.Try.f48 [(0, [(0, .ptr), (1, .any), (2, (.int .i64))])] (Go.Proofs.Try.f48.body.getD .skip) [.pointer a_1, it_2, .int .i64 most_3] k = F48 k a_1 it_2 most_3 := by kernel_rfl
theorem F48_calls {a_1 : Option Addr} {it_2 : Value} {most_3 : Int} {w : World} {R : Ending → World → Prop} (h : F48 (fun v w => R (.returned v) w) a_1 it_2 most_3 w) : Calls Go.Proofs.Try.prog 48 #[.pointer a_1, it_2, .int .i64 most_3] w R :=
  calls_of_compF noNum follows [(0, [(0, .ptr), (1, .any), (2, (.int .i64))])] (f := 48) (fn := Go.Proofs.Try.f48) (body := Go.Proofs.Try.f48.body.getD .skip) (args := [.pointer a_1, it_2, .int .i64 most_3]) rfl rfl (Nat.le_of_ble_eq_true rfl) ((congrFun (F48_eq _ a_1 it_2 most_3) w).mpr h)
theorem F48_call {a_1 : Option Addr} {it_2 : Value} {most_3 : Int} {w : World} {g : Fn W (RTy.leaves (.tup []))} (h : F48 (fun v => Back (.tup []) g (.returned v)) a_1 it_2 most_3 w) : CallT Go.Proofs.Try.prog 48 [.pointer a_1, it_2, .int .i64 most_3] (.tup []) g w := F48_calls h

/-! ## laws.skBits -/
def F10 (k : Value → W) (size_1 : Int) : W :=
 Req (4 ≠ (0 : Int)) <|
 Req (0 ≤ remI size_1 4) <|
 Bind (shlI .i64 8 (remI size_1 4).toNat : Int) fun y2 =>
 k (.int .i64 y2)
theorem F10_eq (k : Value → W) (size_1 : Int) : compF Go.Proofs.Try.prog Go.Proofs.Try.f10 [] (Go.Proofs.Try.f10.body.getD .skip) [.int .u8 size_1] k = F10 k size_1 := by kernel_rfl
theorem F10_calls {size_1 : Int} {w : World} {R : Ending → World → Prop} (h : F10 (fun v w => R (.returned v) w) size_1 w) : Calls Go.Proofs.Try.prog 10 #[.int .u8 size_1] w R :=
  calls_of_compF noNum follows [] (f := 10) (fn := Go.Proofs.Try.f10) (body := Go.Proofs.Try.f10.body.getD .skip) (args := [.int .u8 size_1]) rfl rfl (Nat.le_of_ble_eq_true rfl) ((congrFun (F10_eq _ size_1) w).mpr h)
theorem F10_call {size_1 : Int} {w : World} {g : Fn W (RTy.leaves (.s (.one (.int .i64))))} (h : F10 (fun v => Back (.s (.one (.int .i64))) g (.returned v)) size_1 w) : CallT Go.Proofs.Try.prog 10 [.int .u8 size_1] (.s (.one (.int .i64))) g w := F10_calls h

/-! ## laws.skItem -/
def F34 (k : Value → W) (x1 : Int) (x2 : Int) : W :=
 New [.int .i64 x1, .int .i64 x2] 67 fun n3 =>
 New [.int .i64 0, .int .i64 0] 37 fun n4 =>
 LoadT (.int .i64) ⟨n3, 0, none⟩ fun x5 =>
 LoadT (.int .i64) ⟨n3, 1, none⟩ fun x6 =>
 Store1 ⟨n4, 0, none⟩ (.int .i64 x5) <|
 Store1 ⟨n4, 1, none⟩ (.int .i64 x6) <|
 LoadT (.int .i64) ⟨n4, 0, none⟩ fun x7 =>
 LoadT (.int .i64) ⟨n4, 1, none⟩ fun x8 =>
 k (.agg #[.int .i64 x7, .int .i64 x8])
theorem F34_eq (k : Value → W) (x1 : Int) (x2 : Int) : compF Go.Proofs.Try.prog Go.Proofs.Try.f34 [] (Go.Proofs.Try.f34.body.getD .skip) [.agg #[.int .i64 x1, .int .i64 x2]] k = F34 k x1 x2 := by kernel_rfl
theorem F34_calls {x1 : Int} {x2 : Int} {w : World} {R : Ending → World → Prop} (h : F34 (fun v w => R (.returned v) w) x1 x2 w) : Calls Go.Proofs.Try.prog 34 #[.agg #[.int .i64 x1, .int .i64 x2]] w R :=
  calls_of_compF noNum follows [] (f := 34) (fn := Go.Proofs.Try.f34) (body := Go.Proofs.Try.f34.body.getD .skip) (args := [.agg #[.int .i64 x1, .int .i64 x2]]) rfl rfl (Nat.le_of_ble_eq_true rfl) ((congrFun (F34_eq _ x1 x2) w).mpr h)
theorem F34_call {x1 : Int} {x2 : Int} {w : World} {g : Fn W (RTy.leaves (.s (.agg [(.int .i64), (.int .i64)])))} (h : F34 (fun v => Back (.s (.agg [(.int .i64), (.int .i64)])) g (.returned v)) x1 x2 w) : CallT Go.Proofs.Try.prog 34 [.agg #[.int .i64 x1, .int .i64 x2]] (.s (.agg [(.int .i64), (.int .i64)])) g w := F34_calls h

/-! ## laws.skSame -/
def F36_L1 (k : Value → W) (again6 : Option Addr → Nat → Nat → Option Addr → Nat → Nat → Int → W) (got_3p : Option Addr) (got_3l : Nat) (got_3c : Nat) (want_4p : Option Addr) (want_4l : Nat) (want_4c : Nat) (i_5 : Int) : W :=
 BIf (decide (i_5 < ((got_3l : Nat) : Int))) (
  Drw <|
  NN got_3p fun a7 =>
  Req (0 ≤ i_5 ∧ i_5 < ((got_3l : Nat) : Int)) <|
  LoadT (.int .i64) ((a7.add (i_5.toNat * 2)).add 0) fun x8 =>
  LoadT (.int .i64) ((a7.add (i_5.toNat * 2)).add 1) fun x9 =>
  NN want_4p fun a10 =>
  Req (0 ≤ i_5 ∧ i_5 < ((want_4l : Nat) : Int)) <|
  LoadT (.int .i64) ((a10.add (i_5.toNat * 2)).add 0) fun x11 =>
  LoadT (.int .i64) ((a10.add (i_5.toNat * 2)).add 1) fun x12 =>
  CallT Go.Proofs.Try.prog 34 [.agg #[.int .i64 x11, .int .i64 x12]] (.s (.agg [(.int .i64), (.int .i64)])) fun x13 x14 =>
  Chk1 ((a7.add (i_5.toNat * 2)).add 0) (.int .i64 x8) <|
  Chk1 ((a7.add (i_5.toNat * 2)).add 1) (.int .i64 x9) <|
  RawS Go.Proofs.Try.prog (binS .neq 37 (.tmp 20) (.tmp 25) (.agg #[.int .i64 x8, .int .i64 x9]) (.agg #[.int .i64 x13, .int .i64 x14])) (.s (.one .bool)) fun b15 =>
  Chk1 ((a10.add (i_5.toNat * 2)).add 0) (.int .i64 x11) <|
  Chk1 ((a10.add (i_5.toNat * 2)).add 1) (.int .i64 x12) <|
  BIf b15 (
   k (.bool false)) (
   again6 got_3p got_3l got_3c want_4p want_4l want_4c (addI .i64 i_5 1))) (
  k (.bool true))
theorem F36_L1_rule {k : Value → W} (I : Option Addr → Nat → Nat → Option Addr → Nat → Nat → Int → W) (μ : Option Addr → Nat → Nat → Option Addr → Nat → Nat → Int → World → Nat)
  (hr : ∀ (got_3p : Option Addr) (got_3l : Nat) (got_3c : Nat) (want_4p : Option Addr) (want_4l : Nat) (want_4c : Nat) (i_5 : Int) (w : World), I got_3p got_3l got_3c want_4p want_4l want_4c i_5 w → F36_L1 k (fun got_3p' got_3l' got_3c' want_4p' want_4l' want_4c' i_5' w' => I got_3p' got_3l' got_3c' want_4p' want_4l' want_4c' i_5' w' ∧ μ got_3p' got_3l' got_3c' want_4p' want_4l' want_4c' i_5' w' < μ got_3p got_3l got_3c want_4p want_4l want_4c i_5 w) got_3p got_3l got_3c want_4p want_4l want_4c i_5 w)
  {w : World} {got_3p : Option Addr} {got_3l : Nat} {got_3c : Nat} {want_4p : Option Addr} {want_4l : Nat} {want_4c : Nat} {i_5 : Int} (h : I got_3p got_3l got_3c want_4p want_4l want_4c i_5 w) : Loop [.slice, .slice, (.int .i64)] (F36_L1 k) got_3p got_3l got_3c want_4p want_4l want_4c i_5 w :=
  Loop_intro (ts := [.slice, .slice, (.int .i64)]) (s := ((got_3p, got_3l, got_3c), (want_4p, want_4l, want_4c), i_5, ())) (fun s w => I s.1.1 s.1.2.1 s.1.2.2 s.2.1.1 s.2.1.2.1 s.2.1.2.2 s.2.2.1 w) (fun s w => μ s.1.1 s.1.2.1 s.1.2.2 s.2.1.1 s.2.1.2.1 s.2.1.2.2 s.2.2.1 w) h (fun s w h => hr s.1.1 s.1.2.1 s.1.2.2 s.2.1.1 s.2.1.2.1 s.2.1.2.2 s.2.2.1 w h)
def F36 (k : Value → W) (got_1p : Option Addr) (got_1l : Nat) (got_1c : Nat) (want_2p : Option Addr) (want_2l : Nat) (want_2c : Nat) : W :=
 BIf (((got_1l : Nat) : Int) != ((want_2l : Nat) : Int)) (
  k (.bool false)) (
  Loop [.slice, .slice, (.int .i64)] (F36_L1 k) got_1p got_1l got_1c want_2p want_2l want_2c 0)
theorem F36_eq (k : Value → W) (got_1p : Option Addr) (got_1l : Nat) (got_1c : Nat) (want_2p : Option Addr) (want_2l : Nat) (want_2c : Nat) : compF Go.Proofs.Try.prog Go.Proofs.Try.f36 [(4, [(0, .slice), (1, .slice), (5, (.int .i64))])] (Go.Proofs.Try.f36.body.getD .skip) [.slice got_1p got_1l got_1c, .slice want_2p want_2l want_2c] k = F36 k got_1p got_1l got_1c want_2p want_2l want_2c := by kernel_rfl
theorem F36_calls {got_1p : Option Addr} {got_1l : Nat} {got_1c : Nat} {want_2p : Option Addr} {want_2l : Nat} {want_2c : Nat} {w : World} {R : Ending → World → Prop} (h : F36 (fun v w => R (.returned v) w) got_1p got_1l got_1c want_2p want_2l want_2c w) : Calls Go.Proofs.Try.prog 36 #[.slice got_1p got_1l got_1c, .slice want_2p want_2l want_2c] w R :=
  calls_of_compF noNum follows [(4, [(0, .slice), (1, .slice), (5, (.int .i64))])] (f := 36) (fn := Go.Proofs.Try.f36) (body := Go.Proofs.Try.f36.body.getD .skip) (args := [.slice got_1p got_1l got_1c, .slice want_2p want_2l want_2c]) rfl rfl (Nat.le_of_ble_eq_true rfl) ((congrFun (F36_eq _ got_1p got_1l got_1c want_2p want_2l want_2c) w).mpr h)
theorem F36_call {got_1p : Option Addr} {got_1l : Nat} {got_1c : Nat} {want_2p : Option Addr} {want_2l : Nat} {want_2c : Nat} {w : World} {g : Fn W (RTy.leaves (.s (.one .bool)))} (h : F36 (fun v => Back (.s (.one .bool)) g (.returned v)) got_1p got_1l got_1c want_2p want_2l want_2c w) : CallT Go.Proofs.Try.prog 36 [.slice got_1p got_1l got_1c, .slice want_2p want_2l want_2c] (.s (.one .bool)) g w := F36_calls h

/-! ## spec.SKFrom -/
def F37 (k : Value → W) (l_1p : Option Addr) (l_1l : Nat) (l_1c : Nat) (at_2 : Int) (most_3 : Int) : W :=
 NextT Go.Proofs.Try.prog (builtin .min #[3, 3] 3 [false, false].toArray [.int .i64 at_2, .int .i64 ((l_1l : Nat) : Int)].toArray) (.s (.one (.int .i64))) fun x4 =>
 NextT Go.Proofs.Try.prog (builtin .min #[3, 3] 3 [false, false].toArray [.int .i64 (addI .i64 x4 most_3), .int .i64 ((l_1l : Nat) : Int)].toArray) (.s (.one (.int .i64))) fun x5 =>
 Req (0 ≤ x5 ∧ x5 ≤ ((l_1c : Nat) : Int)) <|
 Req (0 ≤ x4 ∧ x4 ≤ ((x5.toNat : Nat) : Int)) <|
 k (.slice (sliceA l_1p x4.toNat l_1c 2) (x5.toNat - x4.toNat) (l_1c - x4.toNat))
theorem F37_eq (k : Value → W) (l_1p : Option Addr) (l_1l : Nat) (l_1c : Nat) (at_2 : Int) (most_3 : Int) : compF Go.Proofs.Try.prog Go.Proofs.Try.f37 [] (Go.Proofs.Try.f37.body.getD .skip) [.slice l_1p l_1l l_1c, .int .i64 at_2, .int .i64 most_3] k = F37 k l_1p l_1l l_1c at_2 most_3 := by kernel_rfl
theorem F37_calls {l_1p : Option Addr} {l_1l : Nat} {l_1c : Nat} {at_2 : Int} {most_3 : Int} {w : World} {R : Ending → World → Prop} (h : F37 (fun v w => R (.returned v) w) l_1p l_1l l_1c at_2 most_3 w) : Calls Go.Proofs.Try.prog 37 #[.slice l_1p l_1l l_1c, .int .i64 at_2, .int .i64 most_3] w R :=
  calls_of_compF noNum follows [] (f := 37) (fn := Go.Proofs.Try.f37) (body := Go.Proofs.Try.f37.body.getD .skip) (args := [.slice l_1p l_1l l_1c, .int .i64 at_2, .int .i64 most_3]) rfl rfl (Nat.le_of_ble_eq_true rfl) ((congrFun (F37_eq _ l_1p l_1l l_1c at_2 most_3) w).mpr h)
theorem F37_call {l_1p : Option Addr} {l_1l : Nat} {l_1c : Nat} {at_2 : Int} {most_3 : Int} {w : World} {g : Fn W (RTy.leaves (.s (.one .slice)))} (h : F37 (fun v => Back (.s (.one .slice)) g (.returned v)) l_1p l_1l l_1c at_2 most_3 w) : CallT Go.Proofs.Try.prog 37 [.slice l_1p l_1l l_1c, .int .i64 at_2, .int .i64 most_3] (.s (.one .slice)) g w := F37_calls h

/-! ## laws.skSays -/
def F17_J4 (k : Value → W) (again28 : Option Addr → Nat → Nat → Addr → Addr → Int → W) (now_53p : Option Addr) (now_53l : Nat) (now_53c : Nat) (s_54 : Addr) (got_55 : Addr) (i_56 : Int) : W :=
 LoadT (.int .i64) s_54 fun x57 =>
 BIf (x57 == 4) (
  LoadT .slice (s_54.add 2) fun s58p s58l s58c =>
  NN s58p fun a59 =>
  Req (0 ≤ i_56 ∧ i_56 < ((s58l : Nat) : Int)) <|
  LoadT (.int .i64) (a59.add (i_56.toNat * 2)) fun x60 =>
  CallT Go.Proofs.Try.prog 20 [.slice now_53p now_53l now_53c, .int .i64 x60] (.s (.one .slice)) fun s61p s61l s61c =>
  again28 s61p s61l s61c s_54 got_55 (addI .i64 i_56 1)) (
  again28 now_53p now_53l now_53c s_54 got_55 (addI .i64 i_56 1))
def F17_J3 (k : Value → W) (again28 : Option Addr → Nat → Nat → Addr → Addr → Int → W) (now_40p : Option Addr) (now_40l : Nat) (now_40c : Nat) (s_41 : Addr) (got_42 : Addr) (i_43 : Int) (b44 : Bool) : W :=
 BIf b44 (
  k (.tuple #[.slice none 0 0, .bool false])) (
  LoadT (.int .i64) s_41 fun x45 =>
  BIf (x45 == 1) (
   Drw <|
   LoadT .slice (s_41.add 2) fun s46p s46l s46c =>
   NN s46p fun a47 =>
   Req (0 ≤ i_43 ∧ i_43 < ((s46l : Nat) : Int)) <|
   LoadT (.int .i64) (a47.add (i_43.toNat * 2)) fun x48 =>
   LoadT .slice (s_41.add 2) fun s49p s49l s49c =>
   NN s49p fun a50 =>
   Req (0 ≤ i_43 ∧ i_43 < ((s49l : Nat) : Int)) <|
   LoadT (.int .i64) ((a50.add (i_43.toNat * 2)).add 1) fun x51 =>
   CallT Go.Proofs.Try.prog 19 [.slice now_40p now_40l now_40c, .agg #[.int .i64 x48, .int .i64 x51]] (.s (.one .slice)) fun s52p s52l s52c =>
   Chk1 ((a50.add (i_43.toNat * 2)).add 1) (.int .i64 x51) <|
   Chk1 (s_41.add 2) (.slice s49p s49l s49c) <|
   Chk1 (a47.add (i_43.toNat * 2)) (.int .i64 x48) <|
   Chk1 (s_41.add 2) (.slice s46p s46l s46c) <|
   F17_J4 k again28 s52p s52l s52c s_41 got_42 i_43) (
   F17_J4 k again28 now_40p now_40l now_40c s_41 got_42 i_43))
def F17_L1 (k : Value → W) (again28 : Option Addr → Nat → Nat → Addr → Addr → Int → W) (now_24p : Option Addr) (now_24l : Nat) (now_24c : Nat) (s_25 : Addr) (got_26 : Addr) (i_27 : Int) : W :=
 LoadT .slice (s_25.add 2) fun s29p s29l s29c =>
 BIf (decide (i_27 < ((s29l : Nat) : Int))) (
  LoadT .slice (s_25.add 2) fun s30p s30l s30c =>
  NN s30p fun a31 =>
  Req (0 ≤ i_27 ∧ i_27 < ((s30l : Nat) : Int)) <|
  LoadT (.int .i64) (a31.add (i_27.toNat * 2)) fun x32 =>
  CallT Go.Proofs.Try.prog 18 [.slice now_24p now_24l now_24c, .int .i64 x32] (.tup [(.agg [(.int .i64), (.int .i64)]), (.one .bool)]) fun x33 x34 b35 =>
  New [.int .i64 0, .int .i64 0] 67 fun n36 =>
  Store1 ⟨n36, 0, none⟩ (.int .i64 x33) <|
  Store1 ⟨n36, 1, none⟩ (.int .i64 x34) <|
  Drw <|
  LoadT .slice (got_26.add 1) fun s37p s37l s37c =>
  NN s37p fun a38 =>
  Req (0 ≤ i_27 ∧ i_27 < ((s37l : Nat) : Int)) <|
  LoadT .bool (a38.add i_27.toNat) fun b39 =>
  BIf (!(b39 == b35)) (
   F17_J3 k again28 now_24p now_24l now_24c s_25 got_26 i_27 true) (
   BIf b35 (
    LoadT .slice got_26 fun s62p s62l s62c =>
    NN s62p fun a63 =>
    Req (0 ≤ i_27 ∧ i_27 < ((s62l : Nat) : Int)) <|
    LoadT (.int .i64) ((a63.add (i_27.toNat * 2)).add 0) fun x64 =>
    LoadT (.int .i64) ((a63.add (i_27.toNat * 2)).add 1) fun x65 =>
    LoadT (.int .i64) ⟨n36, 0, none⟩ fun x66 =>
    LoadT (.int .i64) ⟨n36, 1, none⟩ fun x67 =>
    CallT Go.Proofs.Try.prog 34 [.agg #[.int .i64 x66, .int .i64 x67]] (.s (.agg [(.int .i64), (.int .i64)])) fun x68 x69 =>
    Chk1 ((a63.add (i_27.toNat * 2)).add 0) (.int .i64 x64) <|
    Chk1 ((a63.add (i_27.toNat * 2)).add 1) (.int .i64 x65) <|
    Chk1 got_26 (.slice s62p s62l s62c) <|
    Chk1 (a38.add i_27.toNat) (.bool b39) <|
    Chk1 (got_26.add 1) (.slice s37p s37l s37c) <|
    RawS Go.Proofs.Try.prog (binS .neq 37 (.tmp 67) (.tmp 69) (.agg #[.int .i64 x64, .int .i64 x65]) (.agg #[.int .i64 x68, .int .i64 x69])) (.s (.one .bool)) fun b70 =>
    Chk1 ⟨n36, 0, none⟩ (.int .i64 x66) <|
    Chk1 ⟨n36, 1, none⟩ (.int .i64 x67) <|
    Chk1 got_26 (.slice s62p s62l s62c) <|
    Chk1 (a38.add i_27.toNat) (.bool b39) <|
    Chk1 (got_26.add 1) (.slice s37p s37l s37c) <|
    F17_J3 k again28 now_24p now_24l now_24c s_25 got_26 i_27 b70) (
    F17_J3 k again28 now_24p now_24l now_24c s_25 got_26 i_27 false))) (
  k (.tuple #[.slice now_24p now_24l now_24c, .bool true]))
theorem F17_L1_rule {k : Value → W} (I : Option Addr → Nat → Nat → Addr → Addr → Int → W) (μ : Option Addr → Nat → Nat → Addr → Addr → Int → World → Nat)
  (hr : ∀ (now_24p : Option Addr) (now_24l : Nat) (now_24c : Nat) (s_25 : Addr) (got_26 : Addr) (i_27 : Int) (w : World), I now_24p now_24l now_24c s_25 got_26 i_27 w → F17_L1 k (fun now_24p' now_24l' now_24c' s_25' got_26' i_27' w' => I now_24p' now_24l' now_24c' s_25' got_26' i_27' w' ∧ μ now_24p' now_24l' now_24c' s_25' got_26' i_27' w' < μ now_24p now_24l now_24c s_25 got_26 i_27 w) now_24p now_24l now_24c s_25 got_26 i_27 w)
  {w : World} {now_24p : Option Addr} {now_24l : Nat} {now_24c : Nat} {s_25 : Addr} {got_26 : Addr} {i_27 : Int} (h : I now_24p now_24l now_24c s_25 got_26 i_27 w) : Loop [.slice, .addr, .addr, (.int .i64)] (F17_L1 k) now_24p now_24l now_24c s_25 got_26 i_27 w :=
  Loop_intro (ts := [.slice, .addr, .addr, (.int .i64)]) (s := ((now_24p, now_24l, now_24c), s_25, got_26, i_27, ())) (fun s w => I s.1.1 s.1.2.1 s.1.2.2 s.2.1 s.2.2.1 s.2.2.2.1 w) (fun s w => μ s.1.1 s.1.2.1 s.1.2.2 s.2.1 s.2.2.1 s.2.2.2.1 w) h (fun s w h => hr s.1.1 s.1.2.1 s.1.2.2 s.2.1 s.2.2.1 s.2.2.2.1 w h)
def F17_J2 (k : Value → W) (now_20p : Option Addr) (now_20l : Nat) (now_20c : Nat) (s_21 : Addr) (got_22 : Addr) (b23 : Bool) : W :=
 BIf b23 (
  k (.tuple #[.slice none 0 0, .bool false])) (
  Loop [.slice, .addr, .addr, (.int .i64)] (F17_L1 k) now_20p now_20l now_20c s_21 got_22 0)
def F17_J5 (k : Value → W) (now_81p : Option Addr) (now_81l : Nat) (now_81c : Nat) (got_82 : Addr) (x_83 : Addr) (is_84 : Bool) (b85 : Bool) : W :=
 BIf b85 (
  k (.tuple #[.slice none 0 0, .bool false])) (
  BIf (!is_84) (
   Drw <|
   LoadT (.int .u64) (got_82.add 2) fun x86 =>
   k (.tuple #[.slice now_81p now_81l now_81c, .bool (x86 == 0)])) (
   Drw <|
   LoadT .slice got_82 fun s87p s87l s87c =>
   NN s87p fun a88 =>
   Req (0 ≤ (0 : Int) ∧ (0 : Int) < ((s87l : Nat) : Int)) <|
   LoadT (.int .i64) ((a88.add ((0 : Int).toNat * 2)).add 0) fun x89 =>
   LoadT (.int .i64) ((a88.add ((0 : Int).toNat * 2)).add 1) fun x90 =>
   LoadT (.int .i64) (x_83.add 0) fun x91 =>
   LoadT (.int .i64) (x_83.add 1) fun x92 =>
   CallT Go.Proofs.Try.prog 34 [.agg #[.int .i64 x91, .int .i64 x92]] (.s (.agg [(.int .i64), (.int .i64)])) fun x93 x94 =>
   Chk1 ((a88.add ((0 : Int).toNat * 2)).add 0) (.int .i64 x89) <|
   Chk1 ((a88.add ((0 : Int).toNat * 2)).add 1) (.int .i64 x90) <|
   Chk1 got_82 (.slice s87p s87l s87c) <|
   RawS Go.Proofs.Try.prog (binS .eql 37 (.tmp 142) (.tmp 144) (.agg #[.int .i64 x89, .int .i64 x90]) (.agg #[.int .i64 x93, .int .i64 x94])) (.s (.one .bool)) fun b95 =>
   Chk1 (x_83.add 0) (.int .i64 x91) <|
   Chk1 (x_83.add 1) (.int .i64 x92) <|
   Chk1 got_82 (.slice s87p s87l s87c) <|
   BIf b95 (
    LoadT (.int .u64) (got_82.add 2) fun x96 =>
    LoadT (.int .i64) x_83 fun x97 =>
    CallT Go.Proofs.Try.prog 35 [.slice now_81p now_81l now_81c, .int .i64 x97] (.s (.one (.int .i64))) fun x98 =>
    Chk1 (got_82.add 2) (.int .u64 x96) <|
    Chk1 (x_83.add 0) (.int .i64 x91) <|
    Chk1 (x_83.add 1) (.int .i64 x92) <|
    Chk1 ((a88.add ((0 : Int).toNat * 2)).add 0) (.int .i64 x89) <|
    Chk1 ((a88.add ((0 : Int).toNat * 2)).add 1) (.int .i64 x90) <|
    Chk1 got_82 (.slice s87p s87l s87c) <|
    Bind (x96 == (IntKind.wrap .u64 x98)) fun y99 =>
    k (.tuple #[.slice now_81p now_81l now_81c, .bool y99])) (
    k (.tuple #[.slice now_81p now_81l now_81c, .bool false]))))
def F17_J1 (k : Value → W) (now_13p : Option Addr) (now_13l : Nat) (now_13c : Nat) (s_14 : Addr) (got_15 : Addr) (x16 : Int) (b17 : Bool) : W :=
 BIf b17 (
  LoadT .slice got_15 fun s18p s18l s18c =>
  LoadT .slice (s_14.add 2) fun s19p s19l s19c =>
  BIf (((s18l : Nat) : Int) != ((s19l : Nat) : Int)) (
   F17_J2 k now_13p now_13l now_13c s_14 got_15 true) (
   LoadT .slice (got_15.add 1) fun s71p s71l s71c =>
   LoadT .slice (s_14.add 2) fun s72p s72l s72c =>
   F17_J2 k now_13p now_13l now_13c s_14 got_15 (((s71l : Nat) : Int) != ((s72l : Nat) : Int)))) (
  BIf (x16 == 3) (
   LoadT .slice (s_14.add 2) fun s73p s73l s73c =>
   NN s73p fun a74 =>
   Req (0 ≤ (0 : Int) ∧ (0 : Int) < ((s73l : Nat) : Int)) <|
   LoadT (.int .i64) (a74.add ((0 : Int).toNat * 2)) fun x75 =>
   CallT Go.Proofs.Try.prog 18 [.slice now_13p now_13l now_13c, .int .i64 x75] (.tup [(.agg [(.int .i64), (.int .i64)]), (.one .bool)]) fun x76 x77 b78 =>
   New [.int .i64 0, .int .i64 0] 67 fun n79 =>
   Store1 ⟨n79, 0, none⟩ (.int .i64 x76) <|
   Store1 ⟨n79, 1, none⟩ (.int .i64 x77) <|
   LoadT .slice (got_15.add 1) fun s80p s80l s80c =>
   BIf (((s80l : Nat) : Int) != 1) (
    F17_J5 k now_13p now_13l now_13c got_15 ⟨n79, 0, none⟩ b78 true) (
    LoadT .slice got_15 fun s100p s100l s100c =>
    BIf (((s100l : Nat) : Int) != 1) (
     F17_J5 k now_13p now_13l now_13c got_15 ⟨n79, 0, none⟩ b78 true) (
     LoadT .slice (got_15.add 1) fun s101p s101l s101c =>
     NN s101p fun a102 =>
     Req (0 ≤ (0 : Int) ∧ (0 : Int) < ((s101l : Nat) : Int)) <|
     LoadT .bool (a102.add ((0 : Int).toNat)) fun b103 =>
     F17_J5 k now_13p now_13l now_13c got_15 ⟨n79, 0, none⟩ b78 (!(b103 == b78))))) (
   BIf (x16 == 5) (
    Drw <|
    LoadT .slice got_15 fun s104p s104l s104c =>
    LoadT .slice (s_14.add 2) fun s105p s105l s105c =>
    NN s105p fun a106 =>
    Req (0 ≤ (0 : Int) ∧ (0 : Int) < ((s105l : Nat) : Int)) <|
    LoadT (.int .i64) (a106.add ((0 : Int).toNat * 2)) fun x107 =>
    LoadT (.int .i64) (s_14.add 4) fun x108 =>
    CallT Go.Proofs.Try.prog 35 [.slice now_13p now_13l now_13c, .int .i64 x107] (.s (.one (.int .i64))) fun x109 =>
    Chk1 (s_14.add 4) (.int .i64 x108) <|
    Chk1 (s_14.add 2) (.slice s105p s105l s105c) <|
    Chk1 got_15 (.slice s104p s104l s104c) <|
    CallT Go.Proofs.Try.prog 37 [.slice now_13p now_13l now_13c, .int .i64 x109, .int .i64 x108] (.s (.one .slice)) fun s110p s110l s110c =>
    Chk1 (a106.add ((0 : Int).toNat * 2)) (.int .i64 x107) <|
    Chk1 (s_14.add 2) (.slice s105p s105l s105c) <|
    Chk1 got_15 (.slice s104p s104l s104c) <|
    CallT Go.Proofs.Try.prog 36 [.slice s104p s104l s104c, .slice s110p s110l s110c] (.s (.one .bool)) fun b111 =>
    Chk1 (s_14.add 4) (.int .i64 x108) <|
    Chk1 (a106.add ((0 : Int).toNat * 2)) (.int .i64 x107) <|
    Chk1 (s_14.add 2) (.slice s105p s105l s105c) <|
    k (.tuple #[.slice now_13p now_13l now_13c, .bool b111])) (
    BIf (x16 == 6) (
     Drw <|
     LoadT (.int .u64) (got_15.add 2) fun x112 =>
     Bind (x112 == (IntKind.wrap .u64 ((now_13l : Nat) : Int))) fun y113 =>
     k (.tuple #[.slice now_13p now_13l now_13c, .bool y113])) (
     k (.tuple #[.slice now_13p now_13l now_13c, .bool true])))))
def F17 (k : Value → W) (now_1p : Option Addr) (now_1l : Nat) (now_1c : Nat) (x2 : Int) (x3 : Int) (s4p : Option Addr) (s4l : Nat) (s4c : Nat) (x5 : Int) (x6 : Int) (s7p : Option Addr) (s7l : Nat) (s7c : Nat) (s8p : Option Addr) (s8l : Nat) (s8c : Nat) (x9 : Int) : W :=
 New [.int .i64 x2, .int .i64 x3, .slice s4p s4l s4c, .int .u64 x5, .int .i64 x6] 39 fun n10 =>
 New [.slice s7p s7l s7c, .slice s8p s8l s8c, .int .u64 x9] 35 fun n11 =>
 LoadT (.int .i64) ⟨n10, 0, none⟩ fun x12 =>
 BIf (x12 == 1) (
  F17_J1 k now_1p now_1l now_1c ⟨n10, 0, none⟩ ⟨n11, 0, none⟩ x12 (x12 == 1)) (
  BIf (x12 == 2) (
   F17_J1 k now_1p now_1l now_1c ⟨n10, 0, none⟩ ⟨n11, 0, none⟩ x12 (x12 == 2)) (
   F17_J1 k now_1p now_1l now_1c ⟨n10, 0, none⟩ ⟨n11, 0, none⟩ x12 (x12 == 4)))
theorem F17_eq (k : Value → W) (now_1p : Option Addr) (now_1l : Nat) (now_1c : Nat) (x2 : Int) (x3 : Int) (s4p : Option Addr) (s4l : Nat) (s4c : Nat) (x5 : Int) (x6 : Int) (s7p : Option Addr) (s7l : Nat) (s7c : Nat) (s8p : Option Addr) (s8l : Nat) (s8c : Nat) (x9 : Int) : compF Go.Proofs.Try.prog Go.Proofs.Try.f17 [(8, [(0, .slice), (4, .addr), (5, .addr), (8, (.int .i64))])] (Go.Proofs.Try.f17.body.getD .skip) [.slice now_1p now_1l now_1c, .agg #[.int .i64 x2, .int .i64 x3, .slice s4p s4l s4c, .int .u64 x5, .int .i64 x6], .agg #[.slice s7p s7l s7c, .slice s8p s8l s8c, .int .u64 x9]] k = F17 k now_1p now_1l now_1c x2 x3 s4p s4l s4c x5 x6 s7p s7l s7c s8p s8l s8c x9 := by kernel_rfl
theorem F17_calls {now_1p : Option Addr} {now_1l : Nat} {now_1c : Nat} {x2 : Int} {x3 : Int} {s4p : Option Addr} {s4l : Nat} {s4c : Nat} {x5 : Int} {x6 : Int} {s7p : Option Addr} {s7l : Nat} {s7c : Nat} {s8p : Option Addr} {s8l : Nat} {s8c : Nat} {x9 : Int} {w : World} {R : Ending → World → Prop} (h : F17 (fun v w => R (.returned v) w) now_1p now_1l now_1c x2 x3 s4p s4l s4c x5 x6 s7p s7l s7c s8p s8l s8c x9 w) : Calls Go.Proofs.Try.prog 17 #[.slice now_1p now_1l now_1c, .agg #[.int .i64 x2, .int .i64 x3, .slice s4p s4l s4c, .int .u64 x5, .int .i64 x6], .agg #[.slice s7p s7l s7c, .slice s8p s8l s8c, .int .u64 x9]] w R :=
  calls_of_compF noNum follows [(8, [(0, .slice), (4, .addr), (5, .addr), (8, (.int .i64))])] (f := 17) (fn := Go.Proofs.Try.f17) (body := Go.Proofs.Try.f17.body.getD .skip) (args := [.slice now_1p now_1l now_1c, .agg #[.int .i64 x2, .int .i64 x3, .slice s4p s4l s4c, .int .u64 x5, .int .i64 x6], .agg #[.slice s7p s7l s7c, .slice s8p s8l s8c, .int .u64 x9]]) rfl rfl (Nat.le_of_ble_eq_true rfl) ((congrFun (F17_eq _ now_1p now_1l now_1c x2 x3 s4p s4l s4c x5 x6 s7p s7l s7c s8p s8l s8c x9) w).mpr h)
theorem F17_call {now_1p : Option Addr} {now_1l : Nat} {now_1c : Nat} {x2 : Int} {x3 : Int} {s4p : Option Addr} {s4l : Nat} {s4c : Nat} {x5 : Int} {x6 : Int} {s7p : Option Addr} {s7l : Nat} {s7c : Nat} {s8p : Option Addr} {s8l : Nat} {s8c : Nat} {x9 : Int} {w : World} {g : Fn W (RTy.leaves (.tup [(.one .slice), (.one .bool)]))} (h : F17 (fun v => Back (.tup [(.one .slice), (.one .bool)]) g (.returned v)) now_1p now_1l now_1c x2 x3 s4p s4l s4c x5 x6 s7p s7l s7c s8p s8l s8c x9 w) : CallT Go.Proofs.Try.prog 17 [.slice now_1p now_1l now_1c, .agg #[.int .i64 x2, .int .i64 x3, .slice s4p s4l s4c, .int .u64 x5, .int .i64 x6], .agg #[.slice s7p s7l s7c, .slice s8p s8l s8c, .int .u64 x9]] (.tup [(.one .slice), (.one .bool)]) g w := F17_calls h

end Go.Proofs.Ytfokodpnoiilbaa.E
