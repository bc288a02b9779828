/-
  Printed by this session's own program eng.py out of Lean's print of the loaded functions: what each function's body asks, in the engine's words; each is checked against the program by the kernel.
-/
import Derived.Test.YtooejhmelodiaaaEng
import Derived.Test.YtooejhmelodiaaaFnsA
namespace Go.Proofs.Ytooejhmelodiaaa.E
open Go
set_option linter.unusedVariables false
set_option maxRecDepth 100000
/-! ## spec.baAt -/
def F11_L1 (k : Value → W) (again6 : Option Addr → Nat → Nat → Int → Int → W) (set_3p : Option Addr) (set_3l : Nat) (set_3c : Nat) (k_4 : Int) (n_5 : Int) : W :=
 BIf (decide (n_5 < ((set_3l : Nat) : Int))) (
  NN set_3p fun a7 =>
  Req (0 ≤ n_5 ∧ n_5 < ((set_3l : Nat) : Int)) <|
  LoadT (.int .u64) (a7.add n_5.toNat) fun x8 =>
  BIf (decide (x8 < k_4)) (
   again6 set_3p set_3l set_3c k_4 (addI .i64 n_5 1)) (
   k (.int .i64 n_5))) (
  k (.int .i64 n_5))
theorem F11_L1_rule {k : Value → W} (I : Option Addr → Nat → Nat → Int → Int → W) (μ : Option Addr → Nat → Nat → Int → Int → World → Nat)
  (hr : ∀ (set_3p : Option Addr) (set_3l : Nat) (set_3c : Nat) (k_4 : Int) (n_5 : Int) (w : World), I set_3p set_3l set_3c k_4 n_5 w → F11_L1 k (fun set_3p' set_3l' set_3c' k_4' n_5' w' => I set_3p' set_3l' set_3c' k_4' n_5' w' ∧ μ set_3p' set_3l' set_3c' k_4' n_5' w' < μ set_3p set_3l set_3c k_4 n_5 w) set_3p set_3l set_3c k_4 n_5 w)
  {w : World} {set_3p : Option Addr} {set_3l : Nat} {set_3c : Nat} {k_4 : Int} {n_5 : Int} (h : I set_3p set_3l set_3c k_4 n_5 w) : Loop [.slice, (.int .u64), (.int .i64)] (F11_L1 k) set_3p set_3l set_3c k_4 n_5 w :=
  Loop_intro (ts := [.slice, (.int .u64), (.int .i64)]) (s := ((set_3p, set_3l, set_3c), k_4, n_5, ())) (fun s w => I s.1.1 s.1.2.1 s.1.2.2 s.2.1 s.2.2.1 w) (fun s w => μ s.1.1 s.1.2.1 s.1.2.2 s.2.1 s.2.2.1 w) h (fun s w h => hr s.1.1 s.1.2.1 s.1.2.2 s.2.1 s.2.2.1 w h)
def F11 (k : Value → W) (set_1p : Option Addr) (set_1l : Nat) (set_1c : Nat) (k_2 : Int) : W :=
 Loop [.slice, (.int .u64), (.int .i64)] (F11_L1 k) set_1p set_1l set_1c k_2 0
theorem F11_eq (k : Value → W) (set_1p : Option Addr) (set_1l : Nat) (set_1c : Nat) (k_2 : Int) : compF Go.Proofs.Try.prog Go.Proofs.Try.f11 [(2, [(0, .slice), (1, (.int .u64)), (5, (.int .i64))])] (Go.Proofs.Try.f11.body.getD .skip) [.slice set_1p set_1l set_1c, .int .u64 k_2] k = F11 k set_1p set_1l set_1c k_2 := by kernel_rfl
theorem F11_calls {set_1p : Option Addr} {set_1l : Nat} {set_1c : Nat} {k_2 : Int} {w : World} {R : Ending → World → Prop} (h : F11 (fun v w => R (.returned v) w) set_1p set_1l set_1c k_2 w) : Calls Go.Proofs.Try.prog 11 #[.slice set_1p set_1l set_1c, .int .u64 k_2] w R :=
  calls_of_compF noNum follows [(2, [(0, .slice), (1, (.int .u64)), (5, (.int .i64))])] (f := 11) (fn := Go.Proofs.Try.f11) (body := Go.Proofs.Try.f11.body.getD .skip) (args := [.slice set_1p set_1l set_1c, .int .u64 k_2]) rfl rfl (Nat.le_of_ble_eq_true rfl) ((congrFun (F11_eq _ set_1p set_1l set_1c k_2) w).mpr h)
theorem F11_call {set_1p : Option Addr} {set_1l : Nat} {set_1c : Nat} {k_2 : Int} {w : World} {g : Fn W (RTy.leaves (.s (.one (.int .i64))))} (h : F11 (fun v => Back (.s (.one (.int .i64))) g (.returned v)) set_1p set_1l set_1c k_2 w) : CallT Go.Proofs.Try.prog 11 [.slice set_1p set_1l set_1c, .int .u64 k_2] (.s (.one (.int .i64))) g w := F11_calls h

/-! ## spec.BAHas -/
def F10 (k : Value → W) (set_1p : Option Addr) (set_1l : Nat) (set_1c : Nat) (k_2 : Int) : W :=
 CallT Go.Proofs.Try.prog 11 [.slice set_1p set_1l set_1c, .int .u64 k_2] (.s (.one (.int .i64))) fun x3 =>
 BIf (decide (x3 < ((set_1l : Nat) : Int))) (
  NN set_1p fun a4 =>
  Req (0 ≤ x3 ∧ x3 < ((set_1l : Nat) : Int)) <|
  LoadT (.int .u64) (a4.add x3.toNat) fun x5 =>
  k (.bool (x5 == k_2))) (
  k (.bool false))
theorem F10_eq (k : Value → W) (set_1p : Option Addr) (set_1l : Nat) (set_1c : Nat) (k_2 : Int) : compF Go.Proofs.Try.prog Go.Proofs.Try.f10 [] (Go.Proofs.Try.f10.body.getD .skip) [.slice set_1p set_1l set_1c, .int .u64 k_2] k = F10 k set_1p set_1l set_1c k_2 := by kernel_rfl
theorem F10_calls {set_1p : Option Addr} {set_1l : Nat} {set_1c : Nat} {k_2 : Int} {w : World} {R : Ending → World → Prop} (h : F10 (fun v w => R (.returned v) w) set_1p set_1l set_1c k_2 w) : Calls Go.Proofs.Try.prog 10 #[.slice set_1p set_1l set_1c, .int .u64 k_2] w R :=
  calls_of_compF noNum follows [] (f := 10) (fn := Go.Proofs.Try.f10) (body := Go.Proofs.Try.f10.body.getD .skip) (args := [.slice set_1p set_1l set_1c, .int .u64 k_2]) rfl rfl (Nat.le_of_ble_eq_true rfl) ((congrFun (F10_eq _ set_1p set_1l set_1c k_2) w).mpr h)
theorem F10_call {set_1p : Option Addr} {set_1l : Nat} {set_1c : Nat} {k_2 : Int} {w : World} {g : Fn W (RTy.leaves (.s (.one .bool)))} (h : F10 (fun v => Back (.s (.one .bool)) g (.returned v)) set_1p set_1l set_1c k_2 w) : CallT Go.Proofs.Try.prog 10 [.slice set_1p set_1l set_1c, .int .u64 k_2] (.s (.one .bool)) g w := F10_calls h

/-! ## spec.BAPut -/
def F8 (k : Value → W) (set_1p : Option Addr) (set_1l : Nat) (set_1c : Nat) (k_2 : Int) : W :=
 CallT Go.Proofs.Try.prog 10 [.slice set_1p set_1l set_1c, .int .u64 k_2] (.s (.one .bool)) fun b3 =>
 BIf b3 (
  k (.slice set_1p set_1l set_1c)) (
  CallT Go.Proofs.Try.prog 11 [.slice set_1p set_1l set_1c, .int .u64 k_2] (.s (.one (.int .i64))) fun x4 =>
  RawT Go.Proofs.Try.prog (Instr.buildSlice 22 0 [].toArray) (.s (.one .slice)) fun s5p s5l s5c =>
  Req (0 ≤ x4 ∧ x4 ≤ ((set_1c : Nat) : Int)) <|
  NextT Go.Proofs.Try.prog (builtin .append #[22, 22] 22 [false, false].toArray [.slice s5p s5l s5c, .slice (sliceA set_1p 0 set_1c 1) (x4.toNat - 0) (set_1c - 0)].toArray) (.s (.one .slice)) fun s6p s6l s6c =>
  Drw <|
  Req (0 ≤ x4 ∧ x4 ≤ ((set_1l : Nat) : Int)) <|
  RawT Go.Proofs.Try.prog (Instr.buildSlice 22 1 [(0, .int .u64 k_2)].toArray) (.s (.one .slice)) fun s7p s7l s7c =>
  NextT Go.Proofs.Try.prog (builtin .append #[22, 22] 22 [false, false].toArray [.slice s6p s6l s6c, .slice s7p s7l s7c].toArray) (.s (.one .slice)) fun s8p s8l s8c =>
  NextT Go.Proofs.Try.prog (builtin .append #[22, 22] 22 [false, false].toArray [.slice s8p s8l s8c, .slice (sliceA set_1p x4.toNat set_1c 1) (set_1l - x4.toNat) (set_1c - x4.toNat)].toArray) (.s (.one .slice)) fun s9p s9l s9c =>
  k (.slice s9p s9l s9c))
theorem F8_eq (k : Value → W) (set_1p : Option Addr) (set_1l : Nat) (set_1c : Nat) (k_2 : Int) : compF Go.Proofs.Try.prog Go.Proofs.Try.f8 [] (Go.Proofs.Try.f8.body.getD .skip) [.slice set_1p set_1l set_1c, .int .u64 k_2] k = F8 k set_1p set_1l set_1c k_2 := by kernel_rfl
theorem F8_calls {set_1p : Option Addr} {set_1l : Nat} {set_1c : Nat} {k_2 : Int} {w : World} {R : Ending → World → Prop} (h : F8 (fun v w => R (.returned v) w) set_1p set_1l set_1c k_2 w) : Calls Go.Proofs.Try.prog 8 #[.slice set_1p set_1l set_1c, .int .u64 k_2] w R :=
  calls_of_compF noNum follows [] (f := 8) (fn := Go.Proofs.Try.f8) (body := Go.Proofs.Try.f8.body.getD .skip) (args := [.slice set_1p set_1l set_1c, .int .u64 k_2]) rfl rfl (Nat.le_of_ble_eq_true rfl) ((congrFun (F8_eq _ set_1p set_1l set_1c k_2) w).mpr h)
theorem F8_call {set_1p : Option Addr} {set_1l : Nat} {set_1c : Nat} {k_2 : Int} {w : World} {g : Fn W (RTy.leaves (.s (.one .slice)))} (h : F8 (fun v => Back (.s (.one .slice)) g (.returned v)) set_1p set_1l set_1c k_2 w) : CallT Go.Proofs.Try.prog 8 [.slice set_1p set_1l set_1c, .int .u64 k_2] (.s (.one .slice)) g w := F8_calls h

/-! ## laws.baMade -/
def F4_J2 (k : Value → W) (again32 : Bool → Option Addr → Nat → Nat → Int → Addr → Addr → Option Addr → Nat → Nat → Int → W) (dense_38 : Bool) (bits_39p : Option Addr) (bits_39l : Nat) (bits_39c : Nat) (on_40 : Int) (a41 : Addr) (a_42 : Addr) (steps_43p : Option Addr) (steps_43l : Nat) (steps_43c : Nat) (i_44 : Int) (k_45 : Int) : W :=
 RawT Go.Proofs.Try.prog (Instr.buildSlice 23 1 [(0, .agg #[.int .i64 3, .int .i64 on_40, .int .i64 0, .int .u64 k_45, .int .i64 0, .bool false])].toArray) (.s (.one .slice)) fun s46p s46l s46c =>
 NextT Go.Proofs.Try.prog (builtin .append #[23, 23] 23 [false, false].toArray [.slice steps_43p steps_43l steps_43c, .slice s46p s46l s46c].toArray) (.s (.one .slice)) fun s47p s47l s47c =>
 LoadT .slice (a_42.add 2) fun s48p s48l s48c =>
 CallT Go.Proofs.Try.prog 8 [.slice s48p s48l s48c, .int .u64 k_45] (.s (.one .slice)) fun s49p s49l s49c =>
 Store1 (a_42.add 2) (.slice s49p s49l s49c) <|
 again32 dense_38 bits_39p bits_39l bits_39c on_40 a41 a_42 s47p s47l s47c (addI .i64 i_44 1)
def F4_J3 (k : Value → W) (a50 : Addr) (a_51 : Addr) (steps_52p : Option Addr) (steps_52l : Nat) (steps_52c : Nat) : W :=
 Drw <|
 LoadT .bool (a_51.add 0) fun b53 =>
 LoadT (.int .u64) (a_51.add 1) fun x54 =>
 LoadT .slice (a_51.add 2) fun s55p s55l s55c =>
 Store1 (a50.add 0) (.bool b53) <|
 Store1 (a50.add 1) (.int .u64 x54) <|
 Store1 (a50.add 2) (.slice s55p s55l s55c) <|
 LoadT .bool (a50.add 0) fun b56 =>
 LoadT (.int .u64) (a50.add 1) fun x57 =>
 LoadT .slice (a50.add 2) fun s58p s58l s58c =>
 k (.tuple #[.slice steps_52p steps_52l steps_52c, .agg #[.bool b56, .int .u64 x57, .slice s58p s58l s58c]])
def F4_L1 (k : Value → W) (again32 : Bool → Option Addr → Nat → Nat → Int → Addr → Addr → Option Addr → Nat → Nat → Int → W) (dense_25 : Bool) (bits_26p : Option Addr) (bits_26l : Nat) (bits_26c : Nat) (on_27 : Int) (a28 : Addr) (a_29 : Addr) (steps_30p : Option Addr) (steps_30l : Nat) (steps_30c : Nat) (i_31 : Int) : W :=
 BIf (decide (i_31 < ((bits_26l : Nat) : Int))) (
  BIf (decide (i_31 < 40)) (
   NN bits_26p fun a33 =>
   Req (0 ≤ i_31 ∧ i_31 < ((bits_26l : Nat) : Int)) <|
   LoadT (.int .u64) (a33.add i_31.toNat) fun x34 =>
   Req (1152921504606846976 ≠ (0 : Int)) <|
   Bind (remI x34 1152921504606846976 : Int) fun k_35 =>
   BIf dense_25 (
    LoadT (.int .u64) (a_29.add 1) fun x36 =>
    Req (mulI .u64 64 x36 ≠ (0 : Int)) <|
    Bind (remI k_35 (mulI .u64 64 x36) : Int) fun k_37 =>
    F4_J2 k again32 dense_25 bits_26p bits_26l bits_26c on_27 a28 a_29 steps_30p steps_30l steps_30c i_31 k_37) (
    F4_J2 k again32 dense_25 bits_26p bits_26l bits_26c on_27 a28 a_29 steps_30p steps_30l steps_30c i_31 k_35)) (
   F4_J3 k a28 a_29 steps_30p steps_30l steps_30c)) (
  F4_J3 k a28 a_29 steps_30p steps_30l steps_30c)
theorem F4_L1_rule {k : Value → W} (I : Bool → Option Addr → Nat → Nat → Int → Addr → Addr → Option Addr → Nat → Nat → Int → W) (μ : Bool → Option Addr → Nat → Nat → Int → Addr → Addr → Option Addr → Nat → Nat → Int → World → Nat)
  (hr : ∀ (dense_25 : Bool) (bits_26p : Option Addr) (bits_26l : Nat) (bits_26c : Nat) (on_27 : Int) (a28 : Addr) (a_29 : Addr) (steps_30p : Option Addr) (steps_30l : Nat) (steps_30c : Nat) (i_31 : Int) (w : World), I dense_25 bits_26p bits_26l bits_26c on_27 a28 a_29 steps_30p steps_30l steps_30c i_31 w → F4_L1 k (fun dense_25' bits_26p' bits_26l' bits_26c' on_27' a28' a_29' steps_30p' steps_30l' steps_30c' i_31' w' => I dense_25' bits_26p' bits_26l' bits_26c' on_27' a28' a_29' steps_30p' steps_30l' steps_30c' i_31' w' ∧ μ dense_25' bits_26p' bits_26l' bits_26c' on_27' a28' a_29' steps_30p' steps_30l' steps_30c' i_31' w' < μ dense_25 bits_26p bits_26l bits_26c on_27 a28 a_29 steps_30p steps_30l steps_30c i_31 w) dense_25 bits_26p bits_26l bits_26c on_27 a28 a_29 steps_30p steps_30l steps_30c i_31 w)
  {w : World} {dense_25 : Bool} {bits_26p : Option Addr} {bits_26l : Nat} {bits_26c : Nat} {on_27 : Int} {a28 : Addr} {a_29 : Addr} {steps_30p : Option Addr} {steps_30l : Nat} {steps_30c : Nat} {i_31 : Int} (h : I dense_25 bits_26p bits_26l bits_26c on_27 a28 a_29 steps_30p steps_30l steps_30c i_31 w) : Loop [.bool, .slice, (.int .i64), .addr, .addr, .slice, (.int .i64)] (F4_L1 k) dense_25 bits_26p bits_26l bits_26c on_27 a28 a_29 steps_30p steps_30l steps_30c i_31 w :=
  Loop_intro (ts := [.bool, .slice, (.int .i64), .addr, .addr, .slice, (.int .i64)]) (s := (dense_25, (bits_26p, bits_26l, bits_26c), on_27, a28, a_29, (steps_30p, steps_30l, steps_30c), i_31, ())) (fun s w => I s.1 s.2.1.1 s.2.1.2.1 s.2.1.2.2 s.2.2.1 s.2.2.2.1 s.2.2.2.2.1 s.2.2.2.2.2.1.1 s.2.2.2.2.2.1.2.1 s.2.2.2.2.2.1.2.2 s.2.2.2.2.2.2.1 w) (fun s w => μ s.1 s.2.1.1 s.2.1.2.1 s.2.1.2.2 s.2.2.1 s.2.2.2.1 s.2.2.2.2.1 s.2.2.2.2.2.1.1 s.2.2.2.2.2.1.2.1 s.2.2.2.2.2.1.2.2 s.2.2.2.2.2.2.1 w) h (fun s w h => hr s.1 s.2.1.1 s.2.1.2.1 s.2.1.2.2 s.2.2.1 s.2.2.2.1 s.2.2.2.2.1 s.2.2.2.2.2.1.1 s.2.2.2.2.2.1.2.1 s.2.2.2.2.2.1.2.2 s.2.2.2.2.2.2.1 w h)
def F4_J1 (k : Value → W) (dense_12 : Bool) (bits_13p : Option Addr) (bits_13l : Nat) (bits_13c : Nat) (on_14 : Int) (a15 : Addr) (a_16 : Addr) (first_17 : Addr) : W :=
 LoadT (.int .i64) (first_17.add 0) fun x18 =>
 LoadT (.int .i64) (first_17.add 1) fun x19 =>
 LoadT (.int .i64) (first_17.add 2) fun x20 =>
 LoadT (.int .u64) (first_17.add 3) fun x21 =>
 LoadT (.int .i64) (first_17.add 4) fun x22 =>
 LoadT .bool (first_17.add 5) fun b23 =>
 RawT Go.Proofs.Try.prog (Instr.buildSlice 23 1 [(0, .agg #[.int .i64 x18, .int .i64 x19, .int .i64 x20, .int .u64 x21, .int .i64 x22, .bool b23])].toArray) (.s (.one .slice)) fun s24p s24l s24c =>
 Loop [.bool, .slice, (.int .i64), .addr, .addr, .slice, (.int .i64)] (F4_L1 k) dense_12 bits_13p bits_13l bits_13c on_14 a15 a_16 s24p s24l s24c 0
def F4 (k : Value → W) (dense_1 : Bool) (size_2 : Int) (bits_3p : Option Addr) (bits_3l : Nat) (bits_3c : Nat) (on_4 : Int) : W :=
 New [.bool false, .int .u64 0, .slice none 0 0] 26 fun n5 =>
 New [.bool false, .int .u64 0, .slice none 0 0] 26 fun n6 =>
 New [.int .i64 0, .int .i64 0, .int .i64 0, .int .u64 0, .int .i64 0, .bool false] 31 fun n7 =>
 Store1 ⟨n6, 0, none⟩ (.bool false) <|
 Store1 ⟨n6, 1, none⟩ (.int .u64 0) <|
 Store1 ⟨n6, 2, none⟩ (.slice none 0 0) <|
 Store1 ⟨n7, 0, none⟩ (.int .i64 2) <|
 Store1 ⟨n7, 1, none⟩ (.int .i64 0) <|
 Store1 ⟨n7, 2, none⟩ (.int .i64 0) <|
 Store1 ⟨n7, 3, none⟩ (.int .u64 0) <|
 Store1 ⟨n7, 4, none⟩ (.int .i64 0) <|
 Store1 ⟨n7, 5, none⟩ (.bool false) <|
 BIf dense_1 (
  Req (512 ≠ (0 : Int)) <|
  Bind (addI .u64 1 (remI (IntKind.wrap .u64 size_2) 512) : Int) fun n_8 =>
  CallT Go.Proofs.Try.prog 7 [.int .u64 n_8, .bool false] (.s (.agg [.bool, (.int .u64), .slice])) fun b9 x10 s11p s11l s11c =>
  Store1 ⟨n6, 0, none⟩ (.bool b9) <|
  Store1 ⟨n6, 1, none⟩ (.int .u64 x10) <|
  Store1 ⟨n6, 2, none⟩ (.slice s11p s11l s11c) <|
  Store1 ⟨n7, 0, none⟩ (.int .i64 1) <|
  Store1 ⟨n7, 1, none⟩ (.int .i64 0) <|
  Store1 ⟨n7, 2, none⟩ (.int .i64 0) <|
  Store1 ⟨n7, 3, none⟩ (.int .u64 n_8) <|
  Store1 ⟨n7, 4, none⟩ (.int .i64 0) <|
  Store1 ⟨n7, 5, none⟩ (.bool false) <|
  F4_J1 k dense_1 bits_3p bits_3l bits_3c on_4 ⟨n5, 0, none⟩ ⟨n6, 0, none⟩ ⟨n7, 0, none⟩) (
  F4_J1 k dense_1 bits_3p bits_3l bits_3c on_4 ⟨n5, 0, none⟩ ⟨n6, 0, none⟩ ⟨n7, 0, none⟩)
theorem F4_eq (k : Value → W) (dense_1 : Bool) (size_2 : Int) (bits_3p : Option Addr) (bits_3l : Nat) (bits_3c : Nat) (on_4 : Int) : compF Go.Proofs.Try.prog Go.Proofs.Try.f4 [(7, [(0, .bool), (2, .slice), (3, (.int .i64)), (9, .addr), (10, .addr), (13, .slice), (14, (.int .i64))])] (Go.Proofs.Try.f4.body.getD .skip) [.bool dense_1, .int .u16 size_2, .slice bits_3p bits_3l bits_3c, .int .i64 on_4] k = F4 k dense_1 size_2 bits_3p bits_3l bits_3c on_4 := by kernel_rfl
theorem F4_calls {dense_1 : Bool} {size_2 : Int} {bits_3p : Option Addr} {bits_3l : Nat} {bits_3c : Nat} {on_4 : Int} {w : World} {R : Ending → World → Prop} (h : F4 (fun v w => R (.returned v) w) dense_1 size_2 bits_3p bits_3l bits_3c on_4 w) : Calls Go.Proofs.Try.prog 4 #[.bool dense_1, .int .u16 size_2, .slice bits_3p bits_3l bits_3c, .int .i64 on_4] w R :=
  calls_of_compF noNum follows [(7, [(0, .bool), (2, .slice), (3, (.int .i64)), (9, .addr), (10, .addr), (13, .slice), (14, (.int .i64))])] (f := 4) (fn := Go.Proofs.Try.f4) (body := Go.Proofs.Try.f4.body.getD .skip) (args := [.bool dense_1, .int .u16 size_2, .slice bits_3p bits_3l bits_3c, .int .i64 on_4]) rfl rfl (Nat.le_of_ble_eq_true rfl) ((congrFun (F4_eq _ dense_1 size_2 bits_3p bits_3l bits_3c on_4) w).mpr h)
theorem F4_call {dense_1 : Bool} {size_2 : Int} {bits_3p : Option Addr} {bits_3l : Nat} {bits_3c : Nat} {on_4 : Int} {w : World} {g : Fn W (RTy.leaves (.tup [(.one .slice), (.agg [.bool, (.int .u64), .slice])]))} (h : F4 (fun v => Back (.tup [(.one .slice), (.agg [.bool, (.int .u64), .slice])]) g (.returned v)) dense_1 size_2 bits_3p bits_3l bits_3c on_4 w) : CallT Go.Proofs.Try.prog 4 [.bool dense_1, .int .u16 size_2, .slice bits_3p bits_3l bits_3c, .int .i64 on_4] (.tup [(.one .slice), (.agg [.bool, (.int .u64), .slice])]) g w := F4_calls h

/-! ## impl.BARun -/
def F9_L1 (k : Value → W) (again8 : Addr → Option Addr → Nat → Nat → Option Addr → Nat → Nat → Int → Int → W) (a_3 : Addr) (out_4p : Option Addr) (out_4l : Nat) (out_4c : Nat) (s5p : Option Addr) (s5l : Nat) (s5c : Nat) (x6 : Int) (x7 : Int) : W :=
 BIf (decide (x7 < x6)) (
  NN s5p fun a9 =>
  Req (0 ≤ x7 ∧ x7 < ((s5l : Nat) : Int)) <|
  LoadT (.int .i64) ((a9.add (x7.toNat * 6)).add 0) fun x10 =>
  LoadT (.int .i64) ((a9.add (x7.toNat * 6)).add 1) fun x11 =>
  LoadT (.int .i64) ((a9.add (x7.toNat * 6)).add 2) fun x12 =>
  LoadT (.int .u64) ((a9.add (x7.toNat * 6)).add 3) fun x13 =>
  LoadT (.int .i64) ((a9.add (x7.toNat * 6)).add 4) fun x14 =>
  LoadT .bool ((a9.add (x7.toNat * 6)).add 5) fun b15 =>
  New [.int .i64 0, .int .i64 0, .int .i64 0, .int .u64 0, .int .i64 0, .bool false] 31 fun n16 =>
  Store1 ⟨n16, 0, none⟩ (.int .i64 x10) <|
  Store1 ⟨n16, 1, none⟩ (.int .i64 x11) <|
  Store1 ⟨n16, 2, none⟩ (.int .i64 x12) <|
  Store1 ⟨n16, 3, none⟩ (.int .u64 x13) <|
  Store1 ⟨n16, 4, none⟩ (.int .i64 x14) <|
  Store1 ⟨n16, 5, none⟩ (.bool b15) <|
  LoadT (.int .i64) ⟨n16, 0, none⟩ fun x17 =>
  LoadT (.int .i64) ⟨n16, 1, none⟩ fun x18 =>
  LoadT (.int .i64) ⟨n16, 2, none⟩ fun x19 =>
  LoadT (.int .u64) ⟨n16, 3, none⟩ fun x20 =>
  LoadT (.int .i64) ⟨n16, 4, none⟩ fun x21 =>
  LoadT .bool ⟨n16, 5, none⟩ fun b22 =>
  CallT Go.Proofs.Try.prog 12 [.pointer (some a_3), .agg #[.int .i64 x17, .int .i64 x18, .int .i64 x19, .int .u64 x20, .int .i64 x21, .bool b22]] (.s (.agg [.bool, (.int .u64), .slice, .bool])) fun b23 x24 s25p s25l s25c b26 =>
  RawT Go.Proofs.Try.prog (Instr.buildSlice 32 1 [(0, .agg #[.bool b23, .int .u64 x24, .slice s25p s25l s25c, .bool b26])].toArray) (.s (.one .slice)) fun s27p s27l s27c =>
  NextT Go.Proofs.Try.prog (builtin .append #[32, 32] 32 [false, false].toArray [.slice out_4p out_4l out_4c, .slice s27p s27l s27c].toArray) (.s (.one .slice)) fun s28p s28l s28c =>
  again8 a_3 s28p s28l s28c s5p s5l s5c x6 (addI .i64 x7 1)) (
  k (.slice out_4p out_4l out_4c))
theorem F9_L1_rule {k : Value → W} (I : Addr → Option Addr → Nat → Nat → Option Addr → Nat → Nat → Int → Int → W) (μ : Addr → Option Addr → Nat → Nat → Option Addr → Nat → Nat → Int → Int → World → Nat)
  (hr : ∀ (a_3 : Addr) (out_4p : Option Addr) (out_4l : Nat) (out_4c : Nat) (s5p : Option Addr) (s5l : Nat) (s5c : Nat) (x6 : Int) (x7 : Int) (w : World), I a_3 out_4p out_4l out_4c s5p s5l s5c x6 x7 w → F9_L1 k (fun a_3' out_4p' out_4l' out_4c' s5p' s5l' s5c' x6' x7' w' => I a_3' out_4p' out_4l' out_4c' s5p' s5l' s5c' x6' x7' w' ∧ μ a_3' out_4p' out_4l' out_4c' s5p' s5l' s5c' x6' x7' w' < μ a_3 out_4p out_4l out_4c s5p s5l s5c x6 x7 w) a_3 out_4p out_4l out_4c s5p s5l s5c x6 x7 w)
  {w : World} {a_3 : Addr} {out_4p : Option Addr} {out_4l : Nat} {out_4c : Nat} {s5p : Option Addr} {s5l : Nat} {s5c : Nat} {x6 : Int} {x7 : Int} (h : I a_3 out_4p out_4l out_4c s5p s5l s5c x6 x7 w) : Loop [.addr, .slice, .slice, (.int .i64), (.int .i64)] (F9_L1 k) a_3 out_4p out_4l out_4c s5p s5l s5c x6 x7 w :=
  Loop_intro (ts := [.addr, .slice, .slice, (.int .i64), (.int .i64)]) (s := (a_3, (out_4p, out_4l, out_4c), (s5p, s5l, s5c), x6, x7, ())) (fun s w => I s.1 s.2.1.1 s.2.1.2.1 s.2.1.2.2 s.2.2.1.1 s.2.2.1.2.1 s.2.2.1.2.2 s.2.2.2.1 s.2.2.2.2.1 w) (fun s w => μ s.1 s.2.1.1 s.2.1.2.1 s.2.1.2.2 s.2.2.1.1 s.2.2.1.2.1 s.2.2.1.2.2 s.2.2.2.1 s.2.2.2.2.1 w) h (fun s w h => hr s.1 s.2.1.1 s.2.1.2.1 s.2.1.2.2 s.2.2.1.1 s.2.2.1.2.1 s.2.2.1.2.2 s.2.2.2.1 s.2.2.2.2.1 w h)
def F9 (k : Value → W) (steps_1p : Option Addr) (steps_1l : Nat) (steps_1c : Nat) : W :=
 New [.slice none 0 0] 44 fun n2 =>
 Loop [.addr, .slice, .slice, (.int .i64), (.int .i64)] (F9_L1 k) ⟨n2, 0, none⟩ none 0 0 steps_1p steps_1l steps_1c ((steps_1l : Nat) : Int) 0
theorem F9_eq (k : Value → W) (steps_1p : Option Addr) (steps_1l : Nat) (steps_1c : Nat) : compF Go.Proofs.Try.prog Go.Proofs.Try.f9 [(4, [(3, .addr), (4, .slice), (9, .slice), (10, (.int .i64)), (11, (.int .i64))])] (Go.Proofs.Try.f9.body.getD .skip) [.slice steps_1p steps_1l steps_1c] k = F9 k steps_1p steps_1l steps_1c := by kernel_rfl
theorem F9_calls {steps_1p : Option Addr} {steps_1l : Nat} {steps_1c : Nat} {w : World} {R : Ending → World → Prop} (h : F9 (fun v w => R (.returned v) w) steps_1p steps_1l steps_1c w) : Calls Go.Proofs.Try.prog 9 #[.slice steps_1p steps_1l steps_1c] w R :=
  calls_of_compF noNum follows [(4, [(3, .addr), (4, .slice), (9, .slice), (10, (.int .i64)), (11, (.int .i64))])] (f := 9) (fn := Go.Proofs.Try.f9) (body := Go.Proofs.Try.f9.body.getD .skip) (args := [.slice steps_1p steps_1l steps_1c]) rfl rfl (Nat.le_of_ble_eq_true rfl) ((congrFun (F9_eq _ steps_1p steps_1l steps_1c) w).mpr h)
theorem F9_call {steps_1p : Option Addr} {steps_1l : Nat} {steps_1c : Nat} {w : World} {g : Fn W (RTy.leaves (.s (.one .slice)))} (h : F9 (fun v => Back (.s (.one .slice)) g (.returned v)) steps_1p steps_1l steps_1c w) : CallT Go.Proofs.Try.prog 9 [.slice steps_1p steps_1l steps_1c] (.s (.one .slice)) g w := F9_calls h

/-! ## laws.baAnswers -/
def F5_L1 (k : Value → W) (again5 : Option Addr → Nat → Nat → Int → W) (l_3p : Option Addr) (l_3l : Nat) (l_3c : Nat) (i_4 : Int) : W :=
 BIf (decide (i_4 < ((l_3l : Nat) : Int))) (
  NN l_3p fun a6 =>
  Req (0 ≤ i_4 ∧ i_4 < ((l_3l : Nat) : Int)) <|
  LoadT .bool ((a6.add (i_4.toNat * 4)).add 3) fun b7 =>
  BIf b7 (
   k (.slice none 0 0)) (
   again5 l_3p l_3l l_3c (addI .i64 i_4 1))) (
  k (.slice l_3p l_3l l_3c))
theorem F5_L1_rule {k : Value → W} (I : Option Addr → Nat → Nat → Int → W) (μ : Option Addr → Nat → Nat → Int → World → Nat)
  (hr : ∀ (l_3p : Option Addr) (l_3l : Nat) (l_3c : Nat) (i_4 : Int) (w : World), I l_3p l_3l l_3c i_4 w → F5_L1 k (fun l_3p' l_3l' l_3c' i_4' w' => I l_3p' l_3l' l_3c' i_4' w' ∧ μ l_3p' l_3l' l_3c' i_4' w' < μ l_3p l_3l l_3c i_4 w) l_3p l_3l l_3c i_4 w)
  {w : World} {l_3p : Option Addr} {l_3l : Nat} {l_3c : Nat} {i_4 : Int} (h : I l_3p l_3l l_3c i_4 w) : Loop [.slice, (.int .i64)] (F5_L1 k) l_3p l_3l l_3c i_4 w :=
  Loop_intro (ts := [.slice, (.int .i64)]) (s := ((l_3p, l_3l, l_3c), i_4, ())) (fun s w => I s.1.1 s.1.2.1 s.1.2.2 s.2.1 w) (fun s w => μ s.1.1 s.1.2.1 s.1.2.2 s.2.1 w) h (fun s w h => hr s.1.1 s.1.2.1 s.1.2.2 s.2.1 w h)
def F5 (k : Value → W) (steps_1p : Option Addr) (steps_1l : Nat) (steps_1c : Nat) : W :=
 CallT Go.Proofs.Try.prog 9 [.slice steps_1p steps_1l steps_1c] (.s (.one .slice)) fun s2p s2l s2c =>
 BIf (((s2l : Nat) : Int) != ((steps_1l : Nat) : Int)) (
  k (.slice none 0 0)) (
  Loop [.slice, (.int .i64)] (F5_L1 k) s2p s2l s2c 0)
theorem F5_eq (k : Value → W) (steps_1p : Option Addr) (steps_1l : Nat) (steps_1c : Nat) : compF Go.Proofs.Try.prog Go.Proofs.Try.f5 [(5, [(3, .slice), (4, (.int .i64))])] (Go.Proofs.Try.f5.body.getD .skip) [.slice steps_1p steps_1l steps_1c] k = F5 k steps_1p steps_1l steps_1c := by kernel_rfl
theorem F5_calls {steps_1p : Option Addr} {steps_1l : Nat} {steps_1c : Nat} {w : World} {R : Ending → World → Prop} (h : F5 (fun v w => R (.returned v) w) steps_1p steps_1l steps_1c w) : Calls Go.Proofs.Try.prog 5 #[.slice steps_1p steps_1l steps_1c] w R :=
  calls_of_compF noNum follows [(5, [(3, .slice), (4, (.int .i64))])] (f := 5) (fn := Go.Proofs.Try.f5) (body := Go.Proofs.Try.f5.body.getD .skip) (args := [.slice steps_1p steps_1l steps_1c]) rfl rfl (Nat.le_of_ble_eq_true rfl) ((congrFun (F5_eq _ steps_1p steps_1l steps_1c) w).mpr h)
theorem F5_call {steps_1p : Option Addr} {steps_1l : Nat} {steps_1c : Nat} {w : World} {g : Fn W (RTy.leaves (.s (.one .slice)))} (h : F5 (fun v => Back (.s (.one .slice)) g (.returned v)) steps_1p steps_1l steps_1c w) : CallT Go.Proofs.Try.prog 5 [.slice steps_1p steps_1l steps_1c] (.s (.one .slice)) g w := F5_calls h

/-! ## spec.BASame -/
def F6_L1 (k : Value → W) (again6 : Option Addr → Nat → Nat → Option Addr → Nat → Nat → Int → W) (a_3p : Option Addr) (a_3l : Nat) (a_3c : Nat) (b_4p : Option Addr) (b_4l : Nat) (b_4c : Nat) (i_5 : Int) : W :=
 BIf (decide (i_5 < ((a_3l : Nat) : Int))) (
  Drw <|
  NN a_3p fun a7 =>
  Req (0 ≤ i_5 ∧ i_5 < ((a_3l : Nat) : Int)) <|
  LoadT (.int .u64) (a7.add i_5.toNat) fun x8 =>
  NN b_4p fun a9 =>
  Req (0 ≤ i_5 ∧ i_5 < ((b_4l : Nat) : Int)) <|
  LoadT (.int .u64) (a9.add i_5.toNat) fun x10 =>
  BIf (x8 != x10) (
   k (.bool false)) (
   again6 a_3p a_3l a_3c b_4p b_4l b_4c (addI .i64 i_5 1))) (
  k (.bool true))
theorem F6_L1_rule {k : Value → W} (I : Option Addr → Nat → Nat → Option Addr → Nat → Nat → Int → W) (μ : Option Addr → Nat → Nat → Option Addr → Nat → Nat → Int → World → Nat)
  (hr : ∀ (a_3p : Option Addr) (a_3l : Nat) (a_3c : Nat) (b_4p : Option Addr) (b_4l : Nat) (b_4c : Nat) (i_5 : Int) (w : World), I a_3p a_3l a_3c b_4p b_4l b_4c i_5 w → F6_L1 k (fun a_3p' a_3l' a_3c' b_4p' b_4l' b_4c' i_5' w' => I a_3p' a_3l' a_3c' b_4p' b_4l' b_4c' i_5' w' ∧ μ a_3p' a_3l' a_3c' b_4p' b_4l' b_4c' i_5' w' < μ a_3p a_3l a_3c b_4p b_4l b_4c i_5 w) a_3p a_3l a_3c b_4p b_4l b_4c i_5 w)
  {w : World} {a_3p : Option Addr} {a_3l : Nat} {a_3c : Nat} {b_4p : Option Addr} {b_4l : Nat} {b_4c : Nat} {i_5 : Int} (h : I a_3p a_3l a_3c b_4p b_4l b_4c i_5 w) : Loop [.slice, .slice, (.int .i64)] (F6_L1 k) a_3p a_3l a_3c b_4p b_4l b_4c i_5 w :=
  Loop_intro (ts := [.slice, .slice, (.int .i64)]) (s := ((a_3p, a_3l, a_3c), (b_4p, b_4l, b_4c), i_5, ())) (fun s w => I s.1.1 s.1.2.1 s.1.2.2 s.2.1.1 s.2.1.2.1 s.2.1.2.2 s.2.2.1 w) (fun s w => μ s.1.1 s.1.2.1 s.1.2.2 s.2.1.1 s.2.1.2.1 s.2.1.2.2 s.2.2.1 w) h (fun s w h => hr s.1.1 s.1.2.1 s.1.2.2 s.2.1.1 s.2.1.2.1 s.2.1.2.2 s.2.2.1 w h)
def F6 (k : Value → W) (a_1p : Option Addr) (a_1l : Nat) (a_1c : Nat) (b_2p : Option Addr) (b_2l : Nat) (b_2c : Nat) : W :=
 BIf (((a_1l : Nat) : Int) != ((b_2l : Nat) : Int)) (
  k (.bool false)) (
  Loop [.slice, .slice, (.int .i64)] (F6_L1 k) a_1p a_1l a_1c b_2p b_2l b_2c 0)
theorem F6_eq (k : Value → W) (a_1p : Option Addr) (a_1l : Nat) (a_1c : Nat) (b_2p : Option Addr) (b_2l : Nat) (b_2c : Nat) : compF Go.Proofs.Try.prog Go.Proofs.Try.f6 [(4, [(0, .slice), (1, .slice), (5, (.int .i64))])] (Go.Proofs.Try.f6.body.getD .skip) [.slice a_1p a_1l a_1c, .slice b_2p b_2l b_2c] k = F6 k a_1p a_1l a_1c b_2p b_2l b_2c := by kernel_rfl
theorem F6_calls {a_1p : Option Addr} {a_1l : Nat} {a_1c : Nat} {b_2p : Option Addr} {b_2l : Nat} {b_2c : Nat} {w : World} {R : Ending → World → Prop} (h : F6 (fun v w => R (.returned v) w) a_1p a_1l a_1c b_2p b_2l b_2c w) : Calls Go.Proofs.Try.prog 6 #[.slice a_1p a_1l a_1c, .slice b_2p b_2l b_2c] w R :=
  calls_of_compF noNum follows [(4, [(0, .slice), (1, .slice), (5, (.int .i64))])] (f := 6) (fn := Go.Proofs.Try.f6) (body := Go.Proofs.Try.f6.body.getD .skip) (args := [.slice a_1p a_1l a_1c, .slice b_2p b_2l b_2c]) rfl rfl (Nat.le_of_ble_eq_true rfl) ((congrFun (F6_eq _ a_1p a_1l a_1c b_2p b_2l b_2c) w).mpr h)
theorem F6_call {a_1p : Option Addr} {a_1l : Nat} {a_1c : Nat} {b_2p : Option Addr} {b_2l : Nat} {b_2c : Nat} {w : World} {g : Fn W (RTy.leaves (.s (.one .bool)))} (h : F6 (fun v => Back (.s (.one .bool)) g (.returned v)) a_1p a_1l a_1c b_2p b_2l b_2c w) : CallT Go.Proofs.Try.prog 6 [.slice a_1p a_1l a_1c, .slice b_2p b_2l b_2c] (.s (.one .bool)) g w := F6_calls h

/-! ## laws.FnBAParts -/
def F3_J1 (k : Value → W) (l_21p : Option Addr) (l_21l : Nat) (l_21c : Nat) (n_22 : Int) : W :=
 Drw <|
 NN l_21p fun a23 =>
 Req (0 ≤ subI .i64 n_22 5 ∧ subI .i64 n_22 5 < ((l_21l : Nat) : Int)) <|
 LoadT .slice ((a23.add ((subI .i64 n_22 5).toNat * 4)).add 2) fun s24p s24l s24c =>
 NN l_21p fun a25 =>
 Req (0 ≤ subI .i64 n_22 4 ∧ subI .i64 n_22 4 < ((l_21l : Nat) : Int)) <|
 LoadT .slice ((a25.add ((subI .i64 n_22 4).toNat * 4)).add 2) fun s26p s26l s26c =>
 CallT Go.Proofs.Try.prog 6 [.slice s24p s24l s24c, .slice s26p s26l s26c] (.s (.one .bool)) fun b27 =>
 BIf b27 (
  NN l_21p fun a28 =>
  Req (0 ≤ subI .i64 n_22 3 ∧ subI .i64 n_22 3 < ((l_21l : Nat) : Int)) <|
  LoadT (.int .u64) ((a28.add ((subI .i64 n_22 3).toNat * 4)).add 1) fun x29 =>
  BIf (x29 == 0) (
   NN l_21p fun a30 =>
   Req (0 ≤ subI .i64 n_22 2 ∧ subI .i64 n_22 2 < ((l_21l : Nat) : Int)) <|
   LoadT (.int .u64) ((a30.add ((subI .i64 n_22 2).toNat * 4)).add 1) fun x31 =>
   NN l_21p fun a32 =>
   Req (0 ≤ subI .i64 n_22 1 ∧ subI .i64 n_22 1 < ((l_21l : Nat) : Int)) <|
   LoadT (.int .u64) ((a32.add ((subI .i64 n_22 1).toNat * 4)).add 1) fun x33 =>
   NN l_21p fun a34 =>
   Req (0 ≤ subI .i64 n_22 5 ∧ subI .i64 n_22 5 < ((l_21l : Nat) : Int)) <|
   LoadT .slice ((a34.add ((subI .i64 n_22 5).toNat * 4)).add 2) fun s35p s35l s35c =>
   Bind ((addI .u64 x31 x33) == (IntKind.wrap .u64 ((s35l : Nat) : Int))) fun y36 =>
   k (.bool y36)) (
   k (.bool false))) (
  k (.bool false))
def F3 (k : Value → W) (a_1p : Option Addr) (a_1l : Nat) (a_1c : Nat) (b_2p : Option Addr) (b_2l : Nat) (b_2c : Nat) : W :=
 BIf (decide (((a_1l : Nat) : Int) > 2147483647)) (
  k (.bool true)) (
  BIf (decide (((b_2l : Nat) : Int) > 2147483647)) (
   k (.bool true)) (
   NextT Go.Proofs.Try.prog (builtin .min #[3, 3] 3 [false, true].toArray [.int .i64 ((a_1l : Nat) : Int), .int .i64 20].toArray) (.s (.one (.int .i64))) fun x3 =>
   Req (0 ≤ x3 ∧ x3 ≤ ((a_1c : Nat) : Int)) <|
   CallT Go.Proofs.Try.prog 4 [.bool false, .int .u16 0, .slice (sliceA a_1p 0 a_1c 1) (x3.toNat - 0) (a_1c - 0), .int .i64 0] (.tup [(.one .slice), (.agg [.bool, (.int .u64), .slice])]) fun s4p s4l s4c b5 x6 s7p s7l s7c =>
   New [.bool false, .int .u64 0, .slice none 0 0] 26 fun n8 =>
   Store1 ⟨n8, 0, none⟩ (.bool b5) <|
   Store1 ⟨n8, 1, none⟩ (.int .u64 x6) <|
   Store1 ⟨n8, 2, none⟩ (.slice s7p s7l s7c) <|
   NextT Go.Proofs.Try.prog (builtin .min #[3, 3] 3 [false, true].toArray [.int .i64 ((b_2l : Nat) : Int), .int .i64 20].toArray) (.s (.one (.int .i64))) fun x9 =>
   Req (0 ≤ x9 ∧ x9 ≤ ((b_2c : Nat) : Int)) <|
   CallT Go.Proofs.Try.prog 4 [.bool false, .int .u16 0, .slice (sliceA b_2p 0 b_2c 1) (x9.toNat - 0) (b_2c - 0), .int .i64 1] (.tup [(.one .slice), (.agg [.bool, (.int .u64), .slice])]) fun s10p s10l s10c b11 x12 s13p s13l s13c =>
   New [.bool false, .int .u64 0, .slice none 0 0] 26 fun n14 =>
   Store1 ⟨n14, 0, none⟩ (.bool b11) <|
   Store1 ⟨n14, 1, none⟩ (.int .u64 x12) <|
   Store1 ⟨n14, 2, none⟩ (.slice s13p s13l s13c) <|
   NextT Go.Proofs.Try.prog (builtin .append #[23, 23] 23 [false, false].toArray [.slice s4p s4l s4c, .slice s10p s10l s10c].toArray) (.s (.one .slice)) fun s15p s15l s15c =>
   RawT Go.Proofs.Try.prog (Instr.buildSlice 23 9 [(0, .agg #[.int .i64 12, .int .i64 0, .int .i64 1, .int .u64 0, .int .i64 0, .bool false]), (1, .agg #[.int .i64 13, .int .i64 0, .int .i64 1, .int .u64 0, .int .i64 0, .bool false]), (2, .agg #[.int .i64 11, .int .i64 2, .int .i64 3, .int .u64 0, .int .i64 0, .bool false]), (3, .agg #[.int .i64 12, .int .i64 2, .int .i64 3, .int .u64 0, .int .i64 0, .bool false]), (4, .agg #[.int .i64 14, .int .i64 0, .int .i64 0, .int .u64 0, .int .i64 0, .bool false]), (5, .agg #[.int .i64 14, .int .i64 4, .int .i64 0, .int .u64 0, .int .i64 0, .bool false]), (6, .agg #[.int .i64 10, .int .i64 5, .int .i64 0, .int .u64 0, .int .i64 0, .bool false]), (7, .agg #[.int .i64 10, .int .i64 2, .int .i64 0, .int .u64 0, .int .i64 0, .bool false]), (8, .agg #[.int .i64 10, .int .i64 3, .int .i64 0, .int .u64 0, .int .i64 0, .bool false])].toArray) (.s (.one .slice)) fun s16p s16l s16c =>
   NextT Go.Proofs.Try.prog (builtin .append #[23, 23] 23 [false, false].toArray [.slice s15p s15l s15c, .slice s16p s16l s16c].toArray) (.s (.one .slice)) fun s17p s17l s17c =>
   CallT Go.Proofs.Try.prog 5 [.slice s17p s17l s17c] (.s (.one .slice)) fun s18p s18l s18c =>
   BIf (((s18l : Nat) : Int) == 0) (
    k (.bool false)) (
    BIf (decide (((a_1l : Nat) : Int) > 0)) (
     NN s18p fun a19 =>
     Req (0 ≤ subI .i64 ((s18l : Nat) : Int) 5 ∧ subI .i64 ((s18l : Nat) : Int) 5 < ((s18l : Nat) : Int)) <|
     LoadT .slice ((a19.add ((subI .i64 ((s18l : Nat) : Int) 5).toNat * 4)).add 2) fun s20p s20l s20c =>
     BIf (((s20l : Nat) : Int) == 0) (
      k (.bool false)) (
      F3_J1 k s18p s18l s18c ((s18l : Nat) : Int))) (
     F3_J1 k s18p s18l s18c ((s18l : Nat) : Int)))))
theorem F3_eq (k : Value → W) (a_1p : Option Addr) (a_1l : Nat) (a_1c : Nat) (b_2p : Option Addr) (b_2l : Nat) (b_2c : Nat) : compF Go.Proofs.Try.prog Go.Proofs.Try.f3 [] (Go.Proofs.Try.f3.body.getD .skip) [.slice a_1p a_1l a_1c, .slice b_2p b_2l b_2c] k = F3 k a_1p a_1l a_1c b_2p b_2l b_2c := by kernel_rfl
theorem F3_calls {a_1p : Option Addr} {a_1l : Nat} {a_1c : Nat} {b_2p : Option Addr} {b_2l : Nat} {b_2c : Nat} {w : World} {R : Ending → World → Prop} (h : F3 (fun v w => R (.returned v) w) a_1p a_1l a_1c b_2p b_2l b_2c w) : Calls Go.Proofs.Try.prog 3 #[.slice a_1p a_1l a_1c, .slice b_2p b_2l b_2c] w R :=
  calls_of_compF noNum follows [] (f := 3) (fn := Go.Proofs.Try.f3) (body := Go.Proofs.Try.f3.body.getD .skip) (args := [.slice a_1p a_1l a_1c, .slice b_2p b_2l b_2c]) rfl rfl (Nat.le_of_ble_eq_true rfl) ((congrFun (F3_eq _ a_1p a_1l a_1c b_2p b_2l b_2c) w).mpr h)
theorem F3_call {a_1p : Option Addr} {a_1l : Nat} {a_1c : Nat} {b_2p : Option Addr} {b_2l : Nat} {b_2c : Nat} {w : World} {g : Fn W (RTy.leaves (.s (.one .bool)))} (h : F3 (fun v => Back (.s (.one .bool)) g (.returned v)) a_1p a_1l a_1c b_2p b_2l b_2c w) : CallT Go.Proofs.Try.prog 3 [.slice a_1p a_1l a_1c, .slice b_2p b_2l b_2c] (.s (.one .bool)) g w := F3_calls h

end Go.Proofs.Ytooejhmelodiaaa.E
