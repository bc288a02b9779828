/-
  Printed by this session's own program eng.py out of Lean's print of the loaded functions: what each function's body asks, in the engine's words; each is checked against the program by the kernel.
-/
import Derived.Test.YtaacaokocamlcaaDoorEng
import Derived.Test.YtaacaokocamlcaaDoorFnsA
namespace Go.Proofs.YtaacaokocamlcaaDoor.E
open Go
set_option linter.unusedVariables false
set_option maxRecDepth 100000
/-! ## laws.trItems -/
def F12_L1 (k : Value → W) (again7 : Option Addr → Nat → Nat → Int → Option Addr → Nat → Nat → Int → W) (l_3p : Option Addr) (l_3l : Nat) (l_3c : Nat) (mask_4 : Int) (out_5p : Option Addr) (out_5l : Nat) (out_5c : Nat) (i_6 : Int) : W :=
 BIf (decide (i_6 < ((l_3l : Nat) : Int))) (
  BIf (decide (i_6 < 60)) (
   Drw <|
   NN l_3p fun a8 =>
   Req (0 ≤ i_6 ∧ i_6 < ((l_3l : Nat) : Int)) <|
   LoadT (.int .u64) (a8.add (i_6.toNat * 2)) fun x9 =>
   NN l_3p fun a10 =>
   Req (0 ≤ i_6 ∧ i_6 < ((l_3l : Nat) : Int)) <|
   LoadT (.int .i64) ((a10.add (i_6.toNat * 2)).add 1) fun x11 =>
   RawT Go.Proofs.Tryd.prog (Instr.buildSlice 26 1 [(0, .agg #[.int .u64 (andI .u64 x9 mask_4), .int .i64 x11])].toArray) (.s (.one .slice)) fun s12p s12l s12c =>
   Chk1 ((a10.add (i_6.toNat * 2)).add 1) (.int .i64 x11) <|
   Chk1 (a8.add (i_6.toNat * 2)) (.int .u64 x9) <|
   NextT Go.Proofs.Tryd.prog (builtin .append #[26, 26] 26 [false, false].toArray [.slice out_5p out_5l out_5c, .slice s12p s12l s12c].toArray) (.s (.one .slice)) fun s13p s13l s13c =>
   Chk1 ((a10.add (i_6.toNat * 2)).add 1) (.int .i64 x11) <|
   Chk1 (a8.add (i_6.toNat * 2)) (.int .u64 x9) <|
   again7 l_3p l_3l l_3c mask_4 s13p s13l s13c (addI .i64 i_6 1)) (
   k (.slice out_5p out_5l out_5c))) (
  k (.slice out_5p out_5l out_5c))
theorem F12_L1_rule {k : Value → W} (I : Option Addr → Nat → Nat → Int → Option Addr → Nat → Nat → Int → W) (μ : Option Addr → Nat → Nat → Int → Option Addr → Nat → Nat → Int → World → Nat)
  (hr : ∀ (l_3p : Option Addr) (l_3l : Nat) (l_3c : Nat) (mask_4 : Int) (out_5p : Option Addr) (out_5l : Nat) (out_5c : Nat) (i_6 : Int) (w : World), I l_3p l_3l l_3c mask_4 out_5p out_5l out_5c i_6 w → F12_L1 k (fun l_3p' l_3l' l_3c' mask_4' out_5p' out_5l' out_5c' i_6' w' => I l_3p' l_3l' l_3c' mask_4' out_5p' out_5l' out_5c' i_6' w' ∧ μ l_3p' l_3l' l_3c' mask_4' out_5p' out_5l' out_5c' i_6' w' < μ l_3p l_3l l_3c mask_4 out_5p out_5l out_5c i_6 w) l_3p l_3l l_3c mask_4 out_5p out_5l out_5c i_6 w)
  {w : World} {l_3p : Option Addr} {l_3l : Nat} {l_3c : Nat} {mask_4 : Int} {out_5p : Option Addr} {out_5l : Nat} {out_5c : Nat} {i_6 : Int} (h : I l_3p l_3l l_3c mask_4 out_5p out_5l out_5c i_6 w) : Loop [.slice, (.int .u64), .slice, (.int .i64)] (F12_L1 k) l_3p l_3l l_3c mask_4 out_5p out_5l out_5c i_6 w :=
  Loop_intro (ts := [.slice, (.int .u64), .slice, (.int .i64)]) (s := ((l_3p, l_3l, l_3c), mask_4, (out_5p, out_5l, out_5c), i_6, ())) (fun s w => I s.1.1 s.1.2.1 s.1.2.2 s.2.1 s.2.2.1.1 s.2.2.1.2.1 s.2.2.1.2.2 s.2.2.2.1 w) (fun s w => μ s.1.1 s.1.2.1 s.1.2.2 s.2.1 s.2.2.1.1 s.2.2.1.2.1 s.2.2.1.2.2 s.2.2.2.1 w) h (fun s w h => hr s.1.1 s.1.2.1 s.1.2.2 s.2.1 s.2.2.1.1 s.2.2.1.2.1 s.2.2.1.2.2 s.2.2.2.1 w h)
def F12 (k : Value → W) (l_1p : Option Addr) (l_1l : Nat) (l_1c : Nat) (mask_2 : Int) : W :=
 Loop [.slice, (.int .u64), .slice, (.int .i64)] (F12_L1 k) l_1p l_1l l_1c mask_2 none 0 0 0
theorem F12_eq (k : Value → W) (l_1p : Option Addr) (l_1l : Nat) (l_1c : Nat) (mask_2 : Int) : compF Go.Proofs.Tryd.prog Go.Proofs.Tryd.f12 [(3, [(0, .slice), (1, (.int .u64)), (5, .slice), (6, (.int .i64))])] (Go.Proofs.Tryd.f12.body.getD .skip) [.slice l_1p l_1l l_1c, .int .u64 mask_2] k = F12 k l_1p l_1l l_1c mask_2 := by kernel_rfl
theorem F12_calls {l_1p : Option Addr} {l_1l : Nat} {l_1c : Nat} {mask_2 : Int} {w : World} {R : Ending → World → Prop} (h : F12 (fun v w => R (.returned v) w) l_1p l_1l l_1c mask_2 w) : Calls Go.Proofs.Tryd.prog 12 #[.slice l_1p l_1l l_1c, .int .u64 mask_2] w R :=
  calls_of_compF noNum follows [(3, [(0, .slice), (1, (.int .u64)), (5, .slice), (6, (.int .i64))])] (f := 12) (fn := Go.Proofs.Tryd.f12) (body := Go.Proofs.Tryd.f12.body.getD .skip) (args := [.slice l_1p l_1l l_1c, .int .u64 mask_2]) rfl rfl (Nat.le_of_ble_eq_true rfl) ((congrFun (F12_eq _ l_1p l_1l l_1c mask_2) w).mpr h)
theorem F12_call {l_1p : Option Addr} {l_1l : Nat} {l_1c : Nat} {mask_2 : Int} {w : World} {g : Fn W (RTy.leaves (.s (.one .slice)))} (h : F12 (fun v => Back (.s (.one .slice)) g (.returned v)) l_1p l_1l l_1c mask_2 w) : CallT Go.Proofs.Tryd.prog 12 [.slice l_1p l_1l l_1c, .int .u64 mask_2] (.s (.one .slice)) g w := F12_calls h

/-! ## laws.trTurned -/
def F14_L2 (k : Value → W) (again6 : Option Addr → Nat → Nat → Option Addr → Nat → Nat → Int → W) (again12 : Option Addr → Nat → Nat → Option Addr → Nat → Nat → Int → Bool → Int → W) (l_7p : Option Addr) (l_7l : Nat) (l_7c : Nat) (out_8p : Option Addr) (out_8l : Nat) (out_8c : Nat) (i_9 : Int) (there_10 : Bool) (k_11 : Int) : W :=
 BIf (decide (k_11 < ((out_8l : Nat) : Int))) (
  Drw <|
  BIf there_10 (
   again12 l_7p l_7l l_7c out_8p out_8l out_8c i_9 true (addI .i64 k_11 1)) (
   NN out_8p fun a13 =>
   Req (0 ≤ k_11 ∧ k_11 < ((out_8l : Nat) : Int)) <|
   LoadT (.int .u64) (a13.add (k_11.toNat * 2)) fun x14 =>
   NN l_7p fun a15 =>
   Req (0 ≤ i_9 ∧ i_9 < ((l_7l : Nat) : Int)) <|
   LoadT (.int .u64) (a15.add (i_9.toNat * 2)) fun x16 =>
   again12 l_7p l_7l l_7c out_8p out_8l out_8c i_9 (x14 == x16) (addI .i64 k_11 1))) (
  BIf (!there_10) (
   NN l_7p fun a17 =>
   Req (0 ≤ i_9 ∧ i_9 < ((l_7l : Nat) : Int)) <|
   LoadT (.int .u64) ((a17.add (i_9.toNat * 2)).add 0) fun x18 =>
   LoadT (.int .i64) ((a17.add (i_9.toNat * 2)).add 1) fun x19 =>
   RawT Go.Proofs.Tryd.prog (Instr.buildSlice 26 1 [(0, .agg #[.int .u64 x18, .int .i64 x19])].toArray) (.s (.one .slice)) fun s20p s20l s20c =>
   NextT Go.Proofs.Tryd.prog (builtin .append #[26, 26] 26 [false, false].toArray [.slice out_8p out_8l out_8c, .slice s20p s20l s20c].toArray) (.s (.one .slice)) fun s21p s21l s21c =>
   again6 l_7p l_7l l_7c s21p s21l s21c (subI .i64 i_9 1)) (
   again6 l_7p l_7l l_7c out_8p out_8l out_8c (subI .i64 i_9 1)))
theorem F14_L2_rule {k : Value → W} {again6 : Option Addr → Nat → Nat → Option Addr → Nat → Nat → Int → W} (I : Option Addr → Nat → Nat → Option Addr → Nat → Nat → Int → Bool → Int → W) (μ : Option Addr → Nat → Nat → Option Addr → Nat → Nat → Int → Bool → Int → World → Nat)
  (hr : ∀ (l_7p : Option Addr) (l_7l : Nat) (l_7c : Nat) (out_8p : Option Addr) (out_8l : Nat) (out_8c : Nat) (i_9 : Int) (there_10 : Bool) (k_11 : Int) (w : World), I l_7p l_7l l_7c out_8p out_8l out_8c i_9 there_10 k_11 w → F14_L2 k again6 (fun l_7p' l_7l' l_7c' out_8p' out_8l' out_8c' i_9' there_10' k_11' w' => I l_7p' l_7l' l_7c' out_8p' out_8l' out_8c' i_9' there_10' k_11' w' ∧ μ l_7p' l_7l' l_7c' out_8p' out_8l' out_8c' i_9' there_10' k_11' w' < μ l_7p l_7l l_7c out_8p out_8l out_8c i_9 there_10 k_11 w) l_7p l_7l l_7c out_8p out_8l out_8c i_9 there_10 k_11 w)
  {w : World} {l_7p : Option Addr} {l_7l : Nat} {l_7c : Nat} {out_8p : Option Addr} {out_8l : Nat} {out_8c : Nat} {i_9 : Int} {there_10 : Bool} {k_11 : Int} (h : I l_7p l_7l l_7c out_8p out_8l out_8c i_9 there_10 k_11 w) : Loop [.slice, .slice, (.int .i64), .bool, (.int .i64)] (F14_L2 k again6) l_7p l_7l l_7c out_8p out_8l out_8c i_9 there_10 k_11 w :=
  Loop_intro (ts := [.slice, .slice, (.int .i64), .bool, (.int .i64)]) (s := ((l_7p, l_7l, l_7c), (out_8p, out_8l, out_8c), i_9, there_10, k_11, ())) (fun s w => I s.1.1 s.1.2.1 s.1.2.2 s.2.1.1 s.2.1.2.1 s.2.1.2.2 s.2.2.1 s.2.2.2.1 s.2.2.2.2.1 w) (fun s w => μ s.1.1 s.1.2.1 s.1.2.2 s.2.1.1 s.2.1.2.1 s.2.1.2.2 s.2.2.1 s.2.2.2.1 s.2.2.2.2.1 w) h (fun s w h => hr s.1.1 s.1.2.1 s.1.2.2 s.2.1.1 s.2.1.2.1 s.2.1.2.2 s.2.2.1 s.2.2.2.1 s.2.2.2.2.1 w h)
def F14_L1 (k : Value → W) (again6 : Option Addr → Nat → Nat → Option Addr → Nat → Nat → Int → W) (l_3p : Option Addr) (l_3l : Nat) (l_3c : Nat) (out_4p : Option Addr) (out_4l : Nat) (out_4c : Nat) (i_5 : Int) : W :=
 BIf (decide (i_5 ≥ 0)) (
  Loop [.slice, .slice, (.int .i64), .bool, (.int .i64)] (F14_L2 k again6) l_3p l_3l l_3c out_4p out_4l out_4c i_5 false 0) (
  k (.slice out_4p out_4l out_4c))
theorem F14_L1_rule {k : Value → W} (I : Option Addr → Nat → Nat → Option Addr → Nat → Nat → Int → W) (μ : Option Addr → Nat → Nat → Option Addr → Nat → Nat → Int → World → Nat)
  (hr : ∀ (l_3p : Option Addr) (l_3l : Nat) (l_3c : Nat) (out_4p : Option Addr) (out_4l : Nat) (out_4c : Nat) (i_5 : Int) (w : World), I l_3p l_3l l_3c out_4p out_4l out_4c i_5 w → F14_L1 k (fun l_3p' l_3l' l_3c' out_4p' out_4l' out_4c' i_5' w' => I l_3p' l_3l' l_3c' out_4p' out_4l' out_4c' i_5' w' ∧ μ l_3p' l_3l' l_3c' out_4p' out_4l' out_4c' i_5' w' < μ l_3p l_3l l_3c out_4p out_4l out_4c i_5 w) l_3p l_3l l_3c out_4p out_4l out_4c i_5 w)
  {w : World} {l_3p : Option Addr} {l_3l : Nat} {l_3c : Nat} {out_4p : Option Addr} {out_4l : Nat} {out_4c : Nat} {i_5 : Int} (h : I l_3p l_3l l_3c out_4p out_4l out_4c i_5 w) : Loop [.slice, .slice, (.int .i64)] (F14_L1 k) l_3p l_3l l_3c out_4p out_4l out_4c i_5 w :=
  Loop_intro (ts := [.slice, .slice, (.int .i64)]) (s := ((l_3p, l_3l, l_3c), (out_4p, out_4l, out_4c), i_5, ())) (fun s w => I s.1.1 s.1.2.1 s.1.2.2 s.2.1.1 s.2.1.2.1 s.2.1.2.2 s.2.2.1 w) (fun s w => μ s.1.1 s.1.2.1 s.1.2.2 s.2.1.1 s.2.1.2.1 s.2.1.2.2 s.2.2.1 w) h (fun s w h => hr s.1.1 s.1.2.1 s.1.2.2 s.2.1.1 s.2.1.2.1 s.2.1.2.2 s.2.2.1 w h)
def F14 (k : Value → W) (l_1p : Option Addr) (l_1l : Nat) (l_1c : Nat) : W :=
 Bind (subI .i64 ((l_1l : Nat) : Int) 1 : Int) fun i_2 =>
 Loop [.slice, .slice, (.int .i64)] (F14_L1 k) l_1p l_1l l_1c none 0 0 i_2
theorem F14_eq (k : Value → W) (l_1p : Option Addr) (l_1l : Nat) (l_1c : Nat) : compF Go.Proofs.Tryd.prog Go.Proofs.Tryd.f14 [(3, [(0, .slice), (3, .slice), (4, (.int .i64))]), (7, [(0, .slice), (3, .slice), (4, (.int .i64)), (5, .bool), (6, (.int .i64))])] (Go.Proofs.Tryd.f14.body.getD .skip) [.slice l_1p l_1l l_1c] k = F14 k l_1p l_1l l_1c := by kernel_rfl
theorem F14_calls {l_1p : Option Addr} {l_1l : Nat} {l_1c : Nat} {w : World} {R : Ending → World → Prop} (h : F14 (fun v w => R (.returned v) w) l_1p l_1l l_1c w) : Calls Go.Proofs.Tryd.prog 14 #[.slice l_1p l_1l l_1c] w R :=
  calls_of_compF noNum follows [(3, [(0, .slice), (3, .slice), (4, (.int .i64))]), (7, [(0, .slice), (3, .slice), (4, (.int .i64)), (5, .bool), (6, (.int .i64))])] (f := 14) (fn := Go.Proofs.Tryd.f14) (body := Go.Proofs.Tryd.f14.body.getD .skip) (args := [.slice l_1p l_1l l_1c]) rfl rfl (Nat.le_of_ble_eq_true rfl) ((congrFun (F14_eq _ l_1p l_1l l_1c) w).mpr h)
theorem F14_call {l_1p : Option Addr} {l_1l : Nat} {l_1c : Nat} {w : World} {g : Fn W (RTy.leaves (.s (.one .slice)))} (h : F14 (fun v => Back (.s (.one .slice)) g (.returned v)) l_1p l_1l l_1c w) : CallT Go.Proofs.Tryd.prog 14 [.slice l_1p l_1l l_1c] (.s (.one .slice)) g w := F14_calls h

/-! ## laws.trOnes -/
def F16_L1 (k : Value → W) (again5 : Option Addr → Nat → Nat → Option Addr → Nat → Nat → Int → W) (l_2p : Option Addr) (l_2l : Nat) (l_2c : Nat) (out_3p : Option Addr) (out_3l : Nat) (out_3c : Nat) (i_4 : Int) : W :=
 BIf (decide (i_4 < ((l_2l : Nat) : Int))) (
  Req (0 ≤ addI .i64 i_4 1 ∧ addI .i64 i_4 1 ≤ ((l_2c : Nat) : Int)) <|
  Req (0 ≤ i_4 ∧ i_4 ≤ (((addI .i64 i_4 1).toNat : Nat) : Int)) <|
  RawT Go.Proofs.Tryd.prog (Instr.buildSlice 31 1 [(0, .int .u64 0)].toArray) (.s (.one .slice)) fun s6p s6l s6c =>
  RawT Go.Proofs.Tryd.prog (Instr.buildSlice 25 1 [(0, .agg #[.int .i64 1, .slice (sliceA l_2p i_4.toNat l_2c 2) (((addI .i64 i_4 1).toNat) - i_4.toNat) (l_2c - i_4.toNat), .slice s6p s6l s6c])].toArray) (.s (.one .slice)) fun s7p s7l s7c =>
  NextT Go.Proofs.Tryd.prog (builtin .append #[25, 25] 25 [false, false].toArray [.slice out_3p out_3l out_3c, .slice s7p s7l s7c].toArray) (.s (.one .slice)) fun s8p s8l s8c =>
  again5 l_2p l_2l l_2c s8p s8l s8c (addI .i64 i_4 1)) (
  k (.slice out_3p out_3l out_3c))
theorem F16_L1_rule {k : Value → W} (I : Option Addr → Nat → Nat → Option Addr → Nat → Nat → Int → W) (μ : Option Addr → Nat → Nat → Option Addr → Nat → Nat → Int → World → Nat)
  (hr : ∀ (l_2p : Option Addr) (l_2l : Nat) (l_2c : Nat) (out_3p : Option Addr) (out_3l : Nat) (out_3c : Nat) (i_4 : Int) (w : World), I l_2p l_2l l_2c out_3p out_3l out_3c i_4 w → F16_L1 k (fun l_2p' l_2l' l_2c' out_3p' out_3l' out_3c' i_4' w' => I l_2p' l_2l' l_2c' out_3p' out_3l' out_3c' i_4' w' ∧ μ l_2p' l_2l' l_2c' out_3p' out_3l' out_3c' i_4' w' < μ l_2p l_2l l_2c out_3p out_3l out_3c i_4 w) l_2p l_2l l_2c out_3p out_3l out_3c i_4 w)
  {w : World} {l_2p : Option Addr} {l_2l : Nat} {l_2c : Nat} {out_3p : Option Addr} {out_3l : Nat} {out_3c : Nat} {i_4 : Int} (h : I l_2p l_2l l_2c out_3p out_3l out_3c i_4 w) : Loop [.slice, .slice, (.int .i64)] (F16_L1 k) l_2p l_2l l_2c out_3p out_3l out_3c i_4 w :=
  Loop_intro (ts := [.slice, .slice, (.int .i64)]) (s := ((l_2p, l_2l, l_2c), (out_3p, out_3l, out_3c), i_4, ())) (fun s w => I s.1.1 s.1.2.1 s.1.2.2 s.2.1.1 s.2.1.2.1 s.2.1.2.2 s.2.2.1 w) (fun s w => μ s.1.1 s.1.2.1 s.1.2.2 s.2.1.1 s.2.1.2.1 s.2.1.2.2 s.2.2.1 w) h (fun s w h => hr s.1.1 s.1.2.1 s.1.2.2 s.2.1.1 s.2.1.2.1 s.2.1.2.2 s.2.2.1 w h)
def F16 (k : Value → W) (l_1p : Option Addr) (l_1l : Nat) (l_1c : Nat) : W :=
 Loop [.slice, .slice, (.int .i64)] (F16_L1 k) l_1p l_1l l_1c none 0 0 0
theorem F16_eq (k : Value → W) (l_1p : Option Addr) (l_1l : Nat) (l_1c : Nat) : compF Go.Proofs.Tryd.prog Go.Proofs.Tryd.f16 [(3, [(0, .slice), (3, .slice), (4, (.int .i64))])] (Go.Proofs.Tryd.f16.body.getD .skip) [.slice l_1p l_1l l_1c] k = F16 k l_1p l_1l l_1c := by kernel_rfl
theorem F16_calls {l_1p : Option Addr} {l_1l : Nat} {l_1c : Nat} {w : World} {R : Ending → World → Prop} (h : F16 (fun v w => R (.returned v) w) l_1p l_1l l_1c w) : Calls Go.Proofs.Tryd.prog 16 #[.slice l_1p l_1l l_1c] w R :=
  calls_of_compF noNum follows [(3, [(0, .slice), (3, .slice), (4, (.int .i64))])] (f := 16) (fn := Go.Proofs.Tryd.f16) (body := Go.Proofs.Tryd.f16.body.getD .skip) (args := [.slice l_1p l_1l l_1c]) rfl rfl (Nat.le_of_ble_eq_true rfl) ((congrFun (F16_eq _ l_1p l_1l l_1c) w).mpr h)
theorem F16_call {l_1p : Option Addr} {l_1l : Nat} {l_1c : Nat} {w : World} {g : Fn W (RTy.leaves (.s (.one .slice)))} (h : F16 (fun v => Back (.s (.one .slice)) g (.returned v)) l_1p l_1l l_1c w) : CallT Go.Proofs.Tryd.prog 16 [.slice l_1p l_1l l_1c] (.s (.one .slice)) g w := F16_calls h

/-! ## laws.FnYFDeepAgain -/
def F4_J1 (k : Value → W) (l_22p : Option Addr) (l_22l : Nat) (l_22c : Nat) (once_23p : Option Addr) (once_23l : Nat) (once_23c : Nat) (a_24p : Option Addr) (a_24l : Nat) (a_24c : Nat) : W :=
 Drw <|
 BIf (((a_24l : Nat) : Int) == (addI .i64 ((l_22l : Nat) : Int) 3)) (
  NN a_24p fun a25 =>
  Req (0 ≤ ((l_22l : Nat) : Int) ∧ ((l_22l : Nat) : Int) < ((a_24l : Nat) : Int)) <|
  LoadT (.int .u64) ((a25.add ((((l_22l : Nat) : Int)).toNat * 3)).add 1) fun x26 =>
  BIf (x26 == (IntKind.wrap .u64 ((once_23l : Nat) : Int))) (
   NN a_24p fun a27 =>
   Req (0 ≤ addI .i64 ((l_22l : Nat) : Int) 2 ∧ addI .i64 ((l_22l : Nat) : Int) 2 < ((a_24l : Nat) : Int)) <|
   LoadT (.int .u64) ((a27.add ((addI .i64 ((l_22l : Nat) : Int) 2).toNat * 3)).add 1) fun x28 =>
   NN a_24p fun a29 =>
   Req (0 ≤ ((l_22l : Nat) : Int) ∧ ((l_22l : Nat) : Int) < ((a_24l : Nat) : Int)) <|
   LoadT (.int .u64) ((a29.add ((((l_22l : Nat) : Int)).toNat * 3)).add 1) fun x30 =>
   BIf (x28 == x30) (
    NN a_24p fun a31 =>
    Req (0 ≤ addI .i64 ((l_22l : Nat) : Int) 1 ∧ addI .i64 ((l_22l : Nat) : Int) 1 < ((a_24l : Nat) : Int)) <|
    LoadT .slice (a31.add ((addI .i64 ((l_22l : Nat) : Int) 1).toNat * 3)) fun s32p s32l s32c =>
    CallT Go.Proofs.Tryd.prog 11 [.slice s32p s32l s32c, .slice once_23p once_23l once_23c] (.s (.one .bool)) fun b33 =>
    Chk1 ((a29.add ((((l_22l : Nat) : Int)).toNat * 3)).add 1) (.int .u64 x30) <|
    Chk1 ((a27.add ((addI .i64 ((l_22l : Nat) : Int) 2).toNat * 3)).add 1) (.int .u64 x28) <|
    Chk1 ((a25.add ((((l_22l : Nat) : Int)).toNat * 3)).add 1) (.int .u64 x26) <|
    k (.bool b33)) (
    k (.bool false))) (
   k (.bool false))) (
  k (.bool false))
def F4 (k : Value → W) (size_1 : Int) (items_2p : Option Addr) (items_2l : Nat) (items_2c : Nat) : W :=
 BIf (decide (((items_2l : Nat) : Int) > 2147483647)) (
  k (.bool true)) (
  CallT Go.Proofs.Tryd.prog 7 [.int .u8 size_1] (.s (.one (.int .i64))) fun x3 =>
  CallT Go.Proofs.Tryd.prog 13 [.int .i64 x3] (.s (.one (.int .u64))) fun x4 =>
  CallT Go.Proofs.Tryd.prog 12 [.slice items_2p items_2l items_2c, .int .u64 x4] (.s (.one .slice)) fun s5p s5l s5c =>
  RawT Go.Proofs.Tryd.prog (Instr.buildSlice 26 1 [(0, .agg #[.int .u64 9, .int .i64 3])].toArray) (.s (.one .slice)) fun s6p s6l s6c =>
  NextT Go.Proofs.Tryd.prog (builtin .append #[26, 26] 26 [false, false].toArray [.slice s5p s5l s5c, .slice s6p s6l s6c].toArray) (.s (.one .slice)) fun s7p s7l s7c =>
  CallT Go.Proofs.Tryd.prog 14 [.slice s7p s7l s7c] (.s (.one .slice)) fun s8p s8l s8c =>
  RawT Go.Proofs.Tryd.prog (Instr.buildSlice 31 1 [(0, .int .u64 0)].toArray) (.s (.one .slice)) fun s9p s9l s9c =>
  New [.int .i64 0, .slice none 0 0, .slice none 0 0] 33 fun n10 =>
  Store1 ⟨n10, 0, none⟩ (.int .i64 5) <|
  Store1 ⟨n10, 1, none⟩ (.slice none 0 0) <|
  Store1 ⟨n10, 2, none⟩ (.slice s9p s9l s9c) <|
  Drw <|
  LoadT (.int .i64) ⟨n10, 0, none⟩ fun x11 =>
  LoadT .slice ⟨n10, 1, none⟩ fun s12p s12l s12c =>
  LoadT .slice ⟨n10, 2, none⟩ fun s13p s13l s13c =>
  LoadT (.int .i64) ⟨n10, 0, none⟩ fun x14 =>
  LoadT .slice ⟨n10, 1, none⟩ fun s15p s15l s15c =>
  LoadT .slice ⟨n10, 2, none⟩ fun s16p s16l s16c =>
  Both (
   CallT Go.Proofs.Tryd.prog 16 [.slice s7p s7l s7c] (.s (.one .slice)) fun s17p s17l s17c =>
   Chk1 ⟨n10, 0, none⟩ (.int .i64 x14) <|
   Chk1 ⟨n10, 1, none⟩ (.slice s15p s15l s15c) <|
   Chk1 ⟨n10, 2, none⟩ (.slice s16p s16l s16c) <|
   Chk1 ⟨n10, 0, none⟩ (.int .i64 x11) <|
   Chk1 ⟨n10, 1, none⟩ (.slice s12p s12l s12c) <|
   Chk1 ⟨n10, 2, none⟩ (.slice s13p s13l s13c) <|
   RawT Go.Proofs.Tryd.prog (Instr.buildSlice 31 1 [(0, .int .u64 0)].toArray) (.s (.one .slice)) fun s18p s18l s18c =>
   Chk1 ⟨n10, 0, none⟩ (.int .i64 x14) <|
   Chk1 ⟨n10, 1, none⟩ (.slice s15p s15l s15c) <|
   Chk1 ⟨n10, 2, none⟩ (.slice s16p s16l s16c) <|
   Chk1 ⟨n10, 0, none⟩ (.int .i64 x11) <|
   Chk1 ⟨n10, 1, none⟩ (.slice s12p s12l s12c) <|
   Chk1 ⟨n10, 2, none⟩ (.slice s13p s13l s13c) <|
   RawT Go.Proofs.Tryd.prog (Instr.buildSlice 25 3 [(0, .agg #[.int .i64 x11, .slice s12p s12l s12c, .slice s13p s13l s13c]), (1, .agg #[.int .i64 1, .slice s8p s8l s8c, .slice s18p s18l s18c]), (2, .agg #[.int .i64 x14, .slice s15p s15l s15c, .slice s16p s16l s16c])].toArray) (.s (.one .slice)) fun s19p s19l s19c =>
   NextT Go.Proofs.Tryd.prog (builtin .append #[25, 25] 25 [false, false].toArray [.slice s17p s17l s17c, .slice s19p s19l s19c].toArray) (.s (.one .slice)) fun s20p s20l s20c =>
   Chk1 ⟨n10, 0, none⟩ (.int .i64 x14) <|
   Chk1 ⟨n10, 1, none⟩ (.slice s15p s15l s15c) <|
   Chk1 ⟨n10, 2, none⟩ (.slice s16p s16l s16c) <|
   Chk1 ⟨n10, 0, none⟩ (.int .i64 x11) <|
   Chk1 ⟨n10, 1, none⟩ (.slice s12p s12l s12c) <|
   Chk1 ⟨n10, 2, none⟩ (.slice s13p s13l s13c) <|
   CallT Go.Proofs.Tryd.prog 15 [.int .i64 x3, .slice s20p s20l s20c] (.s (.one .slice)) fun s21p s21l s21c =>
   Chk1 ⟨n10, 0, none⟩ (.int .i64 x14) <|
   Chk1 ⟨n10, 1, none⟩ (.slice s15p s15l s15c) <|
   Chk1 ⟨n10, 2, none⟩ (.slice s16p s16l s16c) <|
   Chk1 ⟨n10, 0, none⟩ (.int .i64 x11) <|
   Chk1 ⟨n10, 1, none⟩ (.slice s12p s12l s12c) <|
   Chk1 ⟨n10, 2, none⟩ (.slice s13p s13l s13c) <|
   F4_J1 k s7p s7l s7c s8p s8l s8c s21p s21l s21c) (
   RawT Go.Proofs.Tryd.prog (Instr.buildSlice 31 1 [(0, .int .u64 0)].toArray) (.s (.one .slice)) fun s34p s34l s34c =>
   Chk1 ⟨n10, 0, none⟩ (.int .i64 x14) <|
   Chk1 ⟨n10, 1, none⟩ (.slice s15p s15l s15c) <|
   Chk1 ⟨n10, 2, none⟩ (.slice s16p s16l s16c) <|
   Chk1 ⟨n10, 0, none⟩ (.int .i64 x11) <|
   Chk1 ⟨n10, 1, none⟩ (.slice s12p s12l s12c) <|
   Chk1 ⟨n10, 2, none⟩ (.slice s13p s13l s13c) <|
   Both (
    CallT Go.Proofs.Tryd.prog 16 [.slice s7p s7l s7c] (.s (.one .slice)) fun s35p s35l s35c =>
    Chk1 ⟨n10, 0, none⟩ (.int .i64 x14) <|
    Chk1 ⟨n10, 1, none⟩ (.slice s15p s15l s15c) <|
    Chk1 ⟨n10, 2, none⟩ (.slice s16p s16l s16c) <|
    Chk1 ⟨n10, 0, none⟩ (.int .i64 x11) <|
    Chk1 ⟨n10, 1, none⟩ (.slice s12p s12l s12c) <|
    Chk1 ⟨n10, 2, none⟩ (.slice s13p s13l s13c) <|
    RawT Go.Proofs.Tryd.prog (Instr.buildSlice 25 3 [(0, .agg #[.int .i64 x11, .slice s12p s12l s12c, .slice s13p s13l s13c]), (1, .agg #[.int .i64 1, .slice s8p s8l s8c, .slice s34p s34l s34c]), (2, .agg #[.int .i64 x14, .slice s15p s15l s15c, .slice s16p s16l s16c])].toArray) (.s (.one .slice)) fun s36p s36l s36c =>
    NextT Go.Proofs.Tryd.prog (builtin .append #[25, 25] 25 [false, false].toArray [.slice s35p s35l s35c, .slice s36p s36l s36c].toArray) (.s (.one .slice)) fun s37p s37l s37c =>
    Chk1 ⟨n10, 0, none⟩ (.int .i64 x14) <|
    Chk1 ⟨n10, 1, none⟩ (.slice s15p s15l s15c) <|
    Chk1 ⟨n10, 2, none⟩ (.slice s16p s16l s16c) <|
    Chk1 ⟨n10, 0, none⟩ (.int .i64 x11) <|
    Chk1 ⟨n10, 1, none⟩ (.slice s12p s12l s12c) <|
    Chk1 ⟨n10, 2, none⟩ (.slice s13p s13l s13c) <|
    CallT Go.Proofs.Tryd.prog 15 [.int .i64 x3, .slice s37p s37l s37c] (.s (.one .slice)) fun s38p s38l s38c =>
    Chk1 ⟨n10, 0, none⟩ (.int .i64 x14) <|
    Chk1 ⟨n10, 1, none⟩ (.slice s15p s15l s15c) <|
    Chk1 ⟨n10, 2, none⟩ (.slice s16p s16l s16c) <|
    Chk1 ⟨n10, 0, none⟩ (.int .i64 x11) <|
    Chk1 ⟨n10, 1, none⟩ (.slice s12p s12l s12c) <|
    Chk1 ⟨n10, 2, none⟩ (.slice s13p s13l s13c) <|
    F4_J1 k s7p s7l s7c s8p s8l s8c s38p s38l s38c) (
    RawT Go.Proofs.Tryd.prog (Instr.buildSlice 25 3 [(0, .agg #[.int .i64 x11, .slice s12p s12l s12c, .slice s13p s13l s13c]), (1, .agg #[.int .i64 1, .slice s8p s8l s8c, .slice s34p s34l s34c]), (2, .agg #[.int .i64 x14, .slice s15p s15l s15c, .slice s16p s16l s16c])].toArray) (.s (.one .slice)) fun s39p s39l s39c =>
    CallT Go.Proofs.Tryd.prog 16 [.slice s7p s7l s7c] (.s (.one .slice)) fun s40p s40l s40c =>
    Chk1 ⟨n10, 0, none⟩ (.int .i64 x14) <|
    Chk1 ⟨n10, 1, none⟩ (.slice s15p s15l s15c) <|
    Chk1 ⟨n10, 2, none⟩ (.slice s16p s16l s16c) <|
    Chk1 ⟨n10, 0, none⟩ (.int .i64 x11) <|
    Chk1 ⟨n10, 1, none⟩ (.slice s12p s12l s12c) <|
    Chk1 ⟨n10, 2, none⟩ (.slice s13p s13l s13c) <|
    NextT Go.Proofs.Tryd.prog (builtin .append #[25, 25] 25 [false, false].toArray [.slice s40p s40l s40c, .slice s39p s39l s39c].toArray) (.s (.one .slice)) fun s41p s41l s41c =>
    Chk1 ⟨n10, 0, none⟩ (.int .i64 x14) <|
    Chk1 ⟨n10, 1, none⟩ (.slice s15p s15l s15c) <|
    Chk1 ⟨n10, 2, none⟩ (.slice s16p s16l s16c) <|
    Chk1 ⟨n10, 0, none⟩ (.int .i64 x11) <|
    Chk1 ⟨n10, 1, none⟩ (.slice s12p s12l s12c) <|
    Chk1 ⟨n10, 2, none⟩ (.slice s13p s13l s13c) <|
    CallT Go.Proofs.Tryd.prog 15 [.int .i64 x3, .slice s41p s41l s41c] (.s (.one .slice)) fun s42p s42l s42c =>
    Chk1 ⟨n10, 0, none⟩ (.int .i64 x14) <|
    Chk1 ⟨n10, 1, none⟩ (.slice s15p s15l s15c) <|
    Chk1 ⟨n10, 2, none⟩ (.slice s16p s16l s16c) <|
    Chk1 ⟨n10, 0, none⟩ (.int .i64 x11) <|
    Chk1 ⟨n10, 1, none⟩ (.slice s12p s12l s12c) <|
    Chk1 ⟨n10, 2, none⟩ (.slice s13p s13l s13c) <|
    F4_J1 k s7p s7l s7c s8p s8l s8c s42p s42l s42c)))
theorem F4_eq (k : Value → W) (size_1 : Int) (items_2p : Option Addr) (items_2l : Nat) (items_2c : Nat) : compF Go.Proofs.Tryd.prog Go.Proofs.Tryd.f4 [] (Go.Proofs.Tryd.f4.body.getD .skip) [.int .u8 size_1, .slice items_2p items_2l items_2c] k = F4 k size_1 items_2p items_2l items_2c := by kernel_rfl
theorem F4_calls {size_1 : Int} {items_2p : Option Addr} {items_2l : Nat} {items_2c : Nat} {w : World} {R : Ending → World → Prop} (h : F4 (fun v w => R (.returned v) w) size_1 items_2p items_2l items_2c w) : Calls Go.Proofs.Tryd.prog 4 #[.int .u8 size_1, .slice items_2p items_2l items_2c] w R :=
  calls_of_compF noNum follows [] (f := 4) (fn := Go.Proofs.Tryd.f4) (body := Go.Proofs.Tryd.f4.body.getD .skip) (args := [.int .u8 size_1, .slice items_2p items_2l items_2c]) rfl rfl (Nat.le_of_ble_eq_true rfl) ((congrFun (F4_eq _ size_1 items_2p items_2l items_2c) w).mpr h)
theorem F4_call {size_1 : Int} {items_2p : Option Addr} {items_2l : Nat} {items_2c : Nat} {w : World} {g : Fn W (RTy.leaves (.s (.one .bool)))} (h : F4 (fun v => Back (.s (.one .bool)) g (.returned v)) size_1 items_2p items_2l items_2c w) : CallT Go.Proofs.Tryd.prog 4 [.int .u8 size_1, .slice items_2p items_2l items_2c] (.s (.one .bool)) g w := F4_calls h

/-! ## laws.zzFits5 -/
def F39 (k : Value → W) (x1 : Int) (s2p : Option Addr) (s2l : Nat) (s2c : Nat) (s3p : Option Addr) (s3l : Nat) (s3c : Nat) : W :=
 New [.int .i64 x1, .slice s2p s2l s2c, .slice s3p s3l s3c] 33 fun n4 =>
 LoadT .slice ⟨n4, 1, none⟩ fun s5p s5l s5c =>
 BIf (decide (((s5l : Nat) : Int) > 2147483647)) (
  k (.bool false)) (
  LoadT .slice ⟨n4, 2, none⟩ fun s6p s6l s6c =>
  BIf (decide (((s6l : Nat) : Int) > 2147483647)) (
   k (.bool false)) (
   k (.bool true)))
theorem F39_eq (k : Value → W) (x1 : Int) (s2p : Option Addr) (s2l : Nat) (s2c : Nat) (s3p : Option Addr) (s3l : Nat) (s3c : Nat) : compF Go.Proofs.Tryd.prog Go.Proofs.Tryd.f39 [] (Go.Proofs.Tryd.f39.body.getD .skip) [.agg #[.int .i64 x1, .slice s2p s2l s2c, .slice s3p s3l s3c]] k = F39 k x1 s2p s2l s2c s3p s3l s3c := by kernel_rfl
theorem F39_calls {x1 : Int} {s2p : Option Addr} {s2l : Nat} {s2c : Nat} {s3p : Option Addr} {s3l : Nat} {s3c : Nat} {w : World} {R : Ending → World → Prop} (h : F39 (fun v w => R (.returned v) w) x1 s2p s2l s2c s3p s3l s3c w) : Calls Go.Proofs.Tryd.prog 39 #[.agg #[.int .i64 x1, .slice s2p s2l s2c, .slice s3p s3l s3c]] w R :=
  calls_of_compF noNum follows [] (f := 39) (fn := Go.Proofs.Tryd.f39) (body := Go.Proofs.Tryd.f39.body.getD .skip) (args := [.agg #[.int .i64 x1, .slice s2p s2l s2c, .slice s3p s3l s3c]]) rfl rfl (Nat.le_of_ble_eq_true rfl) ((congrFun (F39_eq _ x1 s2p s2l s2c s3p s3l s3c) w).mpr h)
theorem F39_call {x1 : Int} {s2p : Option Addr} {s2l : Nat} {s2c : Nat} {s3p : Option Addr} {s3l : Nat} {s3c : Nat} {w : World} {g : Fn W (RTy.leaves (.s (.one .bool)))} (h : F39 (fun v => Back (.s (.one .bool)) g (.returned v)) x1 s2p s2l s2c s3p s3l s3c w) : CallT Go.Proofs.Tryd.prog 39 [.agg #[.int .i64 x1, .slice s2p s2l s2c, .slice s3p s3l s3c]] (.s (.one .bool)) g w := F39_calls h

/-! ## laws.zzFits4 -/
def F17_L1 (k : Value → W) (again5 : Option Addr → Nat → Nat → Int → Int → W) (s2p : Option Addr) (s2l : Nat) (s2c : Nat) (x3 : Int) (x4 : Int) : W :=
 BIf (decide (x4 < x3)) (
  NN s2p fun a6 =>
  Req (0 ≤ x4 ∧ x4 < ((s2l : Nat) : Int)) <|
  LoadT (.int .i64) ((a6.add (x4.toNat * 3)).add 0) fun x7 =>
  LoadT .slice ((a6.add (x4.toNat * 3)).add 1) fun s8p s8l s8c =>
  LoadT .slice ((a6.add (x4.toNat * 3)).add 2) fun s9p s9l s9c =>
  New [.int .i64 0, .slice none 0 0, .slice none 0 0] 33 fun n10 =>
  Store1 ⟨n10, 0, none⟩ (.int .i64 x7) <|
  Store1 ⟨n10, 1, none⟩ (.slice s8p s8l s8c) <|
  Store1 ⟨n10, 2, none⟩ (.slice s9p s9l s9c) <|
  LoadT (.int .i64) ⟨n10, 0, none⟩ fun x11 =>
  LoadT .slice ⟨n10, 1, none⟩ fun s12p s12l s12c =>
  LoadT .slice ⟨n10, 2, none⟩ fun s13p s13l s13c =>
  CallT Go.Proofs.Tryd.prog 39 [.agg #[.int .i64 x11, .slice s12p s12l s12c, .slice s13p s13l s13c]] (.s (.one .bool)) fun b14 =>
  BIf (!b14) (
   k (.bool false)) (
   again5 s2p s2l s2c x3 (addI .i64 x4 1))) (
  k (.bool true))
theorem F17_L1_rule {k : Value → W} (I : Option Addr → Nat → Nat → Int → Int → W) (μ : Option Addr → Nat → Nat → Int → Int → World → Nat)
  (hr : ∀ (s2p : Option Addr) (s2l : Nat) (s2c : Nat) (x3 : Int) (x4 : Int) (w : World), I s2p s2l s2c x3 x4 w → F17_L1 k (fun s2p' s2l' s2c' x3' x4' w' => I s2p' s2l' s2c' x3' x4' w' ∧ μ s2p' s2l' s2c' x3' x4' w' < μ s2p s2l s2c x3 x4 w) s2p s2l s2c x3 x4 w)
  {w : World} {s2p : Option Addr} {s2l : Nat} {s2c : Nat} {x3 : Int} {x4 : Int} (h : I s2p s2l s2c x3 x4 w) : Loop [.slice, (.int .i64), (.int .i64)] (F17_L1 k) s2p s2l s2c x3 x4 w :=
  Loop_intro (ts := [.slice, (.int .i64), (.int .i64)]) (s := ((s2p, s2l, s2c), x3, x4, ())) (fun s w => I s.1.1 s.1.2.1 s.1.2.2 s.2.1 s.2.2.1 w) (fun s w => μ s.1.1 s.1.2.1 s.1.2.2 s.2.1 s.2.2.1 w) h (fun s w h => hr s.1.1 s.1.2.1 s.1.2.2 s.2.1 s.2.2.1 w h)
def F17 (k : Value → W) (x_1p : Option Addr) (x_1l : Nat) (x_1c : Nat) : W :=
 BIf (decide (((x_1l : Nat) : Int) > 2147483647)) (
  k (.bool false)) (
  Loop [.slice, (.int .i64), (.int .i64)] (F17_L1 k) x_1p x_1l x_1c ((x_1l : Nat) : Int) 0)
theorem F17_eq (k : Value → W) (x_1p : Option Addr) (x_1l : Nat) (x_1c : Nat) : compF Go.Proofs.Tryd.prog Go.Proofs.Tryd.f17 [(4, [(8, .slice), (9, (.int .i64)), (10, (.int .i64))])] (Go.Proofs.Tryd.f17.body.getD .skip) [.slice x_1p x_1l x_1c] k = F17 k x_1p x_1l x_1c := by kernel_rfl
theorem F17_calls {x_1p : Option Addr} {x_1l : Nat} {x_1c : Nat} {w : World} {R : Ending → World → Prop} (h : F17 (fun v w => R (.returned v) w) x_1p x_1l x_1c w) : Calls Go.Proofs.Tryd.prog 17 #[.slice x_1p x_1l x_1c] w R :=
  calls_of_compF noNum follows [(4, [(8, .slice), (9, (.int .i64)), (10, (.int .i64))])] (f := 17) (fn := Go.Proofs.Tryd.f17) (body := Go.Proofs.Tryd.f17.body.getD .skip) (args := [.slice x_1p x_1l x_1c]) rfl rfl (Nat.le_of_ble_eq_true rfl) ((congrFun (F17_eq _ x_1p x_1l x_1c) w).mpr h)
theorem F17_call {x_1p : Option Addr} {x_1l : Nat} {x_1c : Nat} {w : World} {g : Fn W (RTy.leaves (.s (.one .bool)))} (h : F17 (fun v => Back (.s (.one .bool)) g (.returned v)) x_1p x_1l x_1c w) : CallT Go.Proofs.Tryd.prog 17 [.slice x_1p x_1l x_1c] (.s (.one .bool)) g w := F17_calls h

/-! ## laws.trSteps -/
def F40_J4 (k : Value → W) (again9 : Option Addr → Nat → Nat → Int → Bool → Option Addr → Nat → Nat → Int → W) (steps_63p : Option Addr) (steps_63l : Nat) (steps_63c : Nat) (mask_64 : Int) (sorted_65 : Bool) (out_66p : Option Addr) (out_66l : Nat) (out_66c : Nat) (i_67 : Int) (s_68 : Addr) : W :=
 LoadT (.int .i64) (s_68.add 0) fun x69 =>
 LoadT .slice (s_68.add 1) fun s70p s70l s70c =>
 LoadT .slice (s_68.add 2) fun s71p s71l s71c =>
 RawT Go.Proofs.Tryd.prog (Instr.buildSlice 25 1 [(0, .agg #[.int .i64 x69, .slice s70p s70l s70c, .slice s71p s71l s71c])].toArray) (.s (.one .slice)) fun s72p s72l s72c =>
 NextT Go.Proofs.Tryd.prog (builtin .append #[25, 25] 25 [false, false].toArray [.slice out_66p out_66l out_66c, .slice s72p s72l s72c].toArray) (.s (.one .slice)) fun s73p s73l s73c =>
 again9 steps_63p steps_63l steps_63c mask_64 sorted_65 s73p s73l s73c (addI .i64 i_67 1)
def F40_J3 (k : Value → W) (again9 : Option Addr → Nat → Nat → Int → Bool → Option Addr → Nat → Nat → Int → W) (steps_48p : Option Addr) (steps_48l : Nat) (steps_48c : Nat) (mask_49 : Int) (sorted_50 : Bool) (out_51p : Option Addr) (out_51l : Nat) (out_51c : Nat) (i_52 : Int) (s_53 : Addr) : W :=
 RawT Go.Proofs.Tryd.prog (Instr.buildSlice 31 1 [(0, .int .u64 0)].toArray) (.s (.one .slice)) fun s54p s54l s54c =>
 Store1 (s_53.add 2) (.slice s54p s54l s54c) <|
 NN steps_48p fun a55 =>
 Req (0 ≤ i_52 ∧ i_52 < ((steps_48l : Nat) : Int)) <|
 LoadT .slice ((a55.add (i_52.toNat * 3)).add 2) fun s56p s56l s56c =>
 BIf (decide (((s56l : Nat) : Int) > 0)) (
  Drw <|
  LoadT .slice (s_53.add 2) fun s57p s57l s57c =>
  NN steps_48p fun a58 =>
  Req (0 ≤ i_52 ∧ i_52 < ((steps_48l : Nat) : Int)) <|
  LoadT .slice ((a58.add (i_52.toNat * 3)).add 2) fun s59p s59l s59c =>
  NN s59p fun a60 =>
  Req (0 ≤ (0 : Int) ∧ (0 : Int) < ((s59l : Nat) : Int)) <|
  LoadT (.int .u64) (a60.add ((0 : Int).toNat)) fun x61 =>
  NN s57p fun a62 =>
  Req (0 ≤ (0 : Int) ∧ (0 : Int) < ((s57l : Nat) : Int)) <|
  Store1 (a62.add ((0 : Int).toNat)) (.int .u64 (andI .u64 x61 mask_49)) <|
  F40_J4 k again9 steps_48p steps_48l steps_48c mask_49 sorted_50 out_51p out_51l out_51c i_52 s_53) (
  F40_J4 k again9 steps_48p steps_48l steps_48c mask_49 sorted_50 out_51p out_51l out_51c i_52 s_53)
def F40_L2 (k : Value → W) (again9 : Option Addr → Nat → Nat → Int → Bool → Option Addr → Nat → Nat → Int → W) (again34 : Option Addr → Nat → Nat → Int → Bool → Option Addr → Nat → Nat → Int → Addr → Int → W) (steps_27p : Option Addr) (steps_27l : Nat) (steps_27c : Nat) (mask_28 : Int) (sorted_29 : Bool) (out_30p : Option Addr) (out_30l : Nat) (out_30c : Nat) (i_31 : Int) (s_32 : Addr) (k_33 : Int) : W :=
 NN steps_27p fun a35 =>
 Req (0 ≤ i_31 ∧ i_31 < ((steps_27l : Nat) : Int)) <|
 LoadT .slice ((a35.add (i_31.toNat * 3)).add 1) fun s36p s36l s36c =>
 BIf (decide (k_33 < ((s36l : Nat) : Int))) (
  BIf (decide (k_33 < 12)) (
   NN steps_27p fun a37 =>
   Req (0 ≤ i_31 ∧ i_31 < ((steps_27l : Nat) : Int)) <|
   LoadT .slice ((a37.add (i_31.toNat * 3)).add 1) fun s38p s38l s38c =>
   NN s38p fun a39 =>
   Req (0 ≤ k_33 ∧ k_33 < ((s38l : Nat) : Int)) <|
   LoadT (.int .u64) ((a39.add (k_33.toNat * 2)).add 0) fun x40 =>
   LoadT (.int .i64) ((a39.add (k_33.toNat * 2)).add 1) fun x41 =>
   New [.int .u64 0, .int .i64 0] 35 fun n42 =>
   Store1 ⟨n42, 0, none⟩ (.int .u64 x40) <|
   Store1 ⟨n42, 1, none⟩ (.int .i64 x41) <|
   LoadT .slice (s_32.add 1) fun s43p s43l s43c =>
   LoadT (.int .u64) ⟨n42, 0, none⟩ fun x44 =>
   LoadT (.int .i64) ⟨n42, 1, none⟩ fun x45 =>
   RawT Go.Proofs.Tryd.prog (Instr.buildSlice 26 1 [(0, .agg #[.int .u64 (andI .u64 x44 mask_28), .int .i64 x45])].toArray) (.s (.one .slice)) fun s46p s46l s46c =>
   NextT Go.Proofs.Tryd.prog (builtin .append #[26, 26] 26 [false, false].toArray [.slice s43p s43l s43c, .slice s46p s46l s46c].toArray) (.s (.one .slice)) fun s47p s47l s47c =>
   Store1 (s_32.add 1) (.slice s47p s47l s47c) <|
   again34 steps_27p steps_27l steps_27c mask_28 sorted_29 out_30p out_30l out_30c i_31 s_32 (addI .i64 k_33 1)) (
   F40_J3 k again9 steps_27p steps_27l steps_27c mask_28 sorted_29 out_30p out_30l out_30c i_31 s_32)) (
  F40_J3 k again9 steps_27p steps_27l steps_27c mask_28 sorted_29 out_30p out_30l out_30c i_31 s_32)
theorem F40_L2_rule {k : Value → W} {again9 : Option Addr → Nat → Nat → Int → Bool → Option Addr → Nat → Nat → Int → W} (I : Option Addr → Nat → Nat → Int → Bool → Option Addr → Nat → Nat → Int → Addr → Int → W) (μ : Option Addr → Nat → Nat → Int → Bool → Option Addr → Nat → Nat → Int → Addr → Int → World → Nat)
  (hr : ∀ (steps_27p : Option Addr) (steps_27l : Nat) (steps_27c : Nat) (mask_28 : Int) (sorted_29 : Bool) (out_30p : Option Addr) (out_30l : Nat) (out_30c : Nat) (i_31 : Int) (s_32 : Addr) (k_33 : Int) (w : World), I steps_27p steps_27l steps_27c mask_28 sorted_29 out_30p out_30l out_30c i_31 s_32 k_33 w → F40_L2 k again9 (fun steps_27p' steps_27l' steps_27c' mask_28' sorted_29' out_30p' out_30l' out_30c' i_31' s_32' k_33' w' => I steps_27p' steps_27l' steps_27c' mask_28' sorted_29' out_30p' out_30l' out_30c' i_31' s_32' k_33' w' ∧ μ steps_27p' steps_27l' steps_27c' mask_28' sorted_29' out_30p' out_30l' out_30c' i_31' s_32' k_33' w' < μ steps_27p steps_27l steps_27c mask_28 sorted_29 out_30p out_30l out_30c i_31 s_32 k_33 w) steps_27p steps_27l steps_27c mask_28 sorted_29 out_30p out_30l out_30c i_31 s_32 k_33 w)
  {w : World} {steps_27p : Option Addr} {steps_27l : Nat} {steps_27c : Nat} {mask_28 : Int} {sorted_29 : Bool} {out_30p : Option Addr} {out_30l : Nat} {out_30c : Nat} {i_31 : Int} {s_32 : Addr} {k_33 : Int} (h : I steps_27p steps_27l steps_27c mask_28 sorted_29 out_30p out_30l out_30c i_31 s_32 k_33 w) : Loop [.slice, (.int .u64), .bool, .slice, (.int .i64), .addr, (.int .i64)] (F40_L2 k again9) steps_27p steps_27l steps_27c mask_28 sorted_29 out_30p out_30l out_30c i_31 s_32 k_33 w :=
  Loop_intro (ts := [.slice, (.int .u64), .bool, .slice, (.int .i64), .addr, (.int .i64)]) (s := ((steps_27p, steps_27l, steps_27c), mask_28, sorted_29, (out_30p, out_30l, out_30c), i_31, s_32, k_33, ())) (fun s w => I s.1.1 s.1.2.1 s.1.2.2 s.2.1 s.2.2.1 s.2.2.2.1.1 s.2.2.2.1.2.1 s.2.2.2.1.2.2 s.2.2.2.2.1 s.2.2.2.2.2.1 s.2.2.2.2.2.2.1 w) (fun s w => μ s.1.1 s.1.2.1 s.1.2.2 s.2.1 s.2.2.1 s.2.2.2.1.1 s.2.2.2.1.2.1 s.2.2.2.1.2.2 s.2.2.2.2.1 s.2.2.2.2.2.1 s.2.2.2.2.2.2.1 w) h (fun s w h => hr s.1.1 s.1.2.1 s.1.2.2 s.2.1 s.2.2.1 s.2.2.2.1.1 s.2.2.2.1.2.1 s.2.2.2.1.2.2 s.2.2.2.2.1 s.2.2.2.2.2.1 s.2.2.2.2.2.2.1 w h)
def F40_J2 (k : Value → W) (again9 : Option Addr → Nat → Nat → Int → Bool → Option Addr → Nat → Nat → Int → W) (steps_21p : Option Addr) (steps_21l : Nat) (steps_21c : Nat) (mask_22 : Int) (sorted_23 : Bool) (out_24p : Option Addr) (out_24l : Nat) (out_24c : Nat) (i_25 : Int) (s_26 : Addr) : W :=
 Loop [.slice, (.int .u64), .bool, .slice, (.int .i64), .addr, (.int .i64)] (F40_L2 k again9) steps_21p steps_21l steps_21c mask_22 sorted_23 out_24p out_24l out_24c i_25 s_26 0
def F40_J1 (k : Value → W) (again9 : Option Addr → Nat → Nat → Int → Bool → Option Addr → Nat → Nat → Int → W) (steps_14p : Option Addr) (steps_14l : Nat) (steps_14c : Nat) (mask_15 : Int) (sorted_16 : Bool) (out_17p : Option Addr) (out_17l : Nat) (out_17c : Nat) (i_18 : Int) (s_19 : Addr) (b20 : Bool) : W :=
 BIf b20 (
  Store1 s_19 (.int .i64 3) <|
  F40_J2 k again9 steps_14p steps_14l steps_14c mask_15 sorted_16 out_17p out_17l out_17c i_18 s_19) (
  F40_J2 k again9 steps_14p steps_14l steps_14c mask_15 sorted_16 out_17p out_17l out_17c i_18 s_19)
def F40_L1 (k : Value → W) (again9 : Option Addr → Nat → Nat → Int → Bool → Option Addr → Nat → Nat → Int → W) (steps_4p : Option Addr) (steps_4l : Nat) (steps_4c : Nat) (mask_5 : Int) (sorted_6 : Bool) (out_7p : Option Addr) (out_7l : Nat) (out_7c : Nat) (i_8 : Int) : W :=
 BIf (decide (i_8 < ((steps_4l : Nat) : Int))) (
  BIf (decide (i_8 < 60)) (
   NN steps_4p fun a10 =>
   Req (0 ≤ i_8 ∧ i_8 < ((steps_4l : Nat) : Int)) <|
   LoadT (.int .i64) (a10.add (i_8.toNat * 3)) fun x11 =>
   Req (7 ≠ (0 : Int)) <|
   New [.int .i64 0, .slice none 0 0, .slice none 0 0] 33 fun n12 =>
   Store1 ⟨n12, 0, none⟩ (.int .i64 (addI .i64 1 (remI x11 7))) <|
   Store1 ⟨n12, 1, none⟩ (.slice none 0 0) <|
   Store1 ⟨n12, 2, none⟩ (.slice none 0 0) <|
   LoadT (.int .i64) ⟨n12, 0, none⟩ fun x13 =>
   BIf (decide (x13 < 1)) (
    F40_J1 k again9 steps_4p steps_4l steps_4c mask_5 sorted_6 out_7p out_7l out_7c i_8 ⟨n12, 0, none⟩ true) (
    LoadT (.int .i64) ⟨n12, 0, none⟩ fun x74 =>
    BIf (x74 == 2) (
     F40_J1 k again9 steps_4p steps_4l steps_4c mask_5 sorted_6 out_7p out_7l out_7c i_8 ⟨n12, 0, none⟩ true) (
     BIf (!sorted_6) (
      LoadT (.int .i64) ⟨n12, 0, none⟩ fun x75 =>
      BIf (x75 == 4) (
       F40_J1 k again9 steps_4p steps_4l steps_4c mask_5 sorted_6 out_7p out_7l out_7c i_8 ⟨n12, 0, none⟩ true) (
       LoadT (.int .i64) ⟨n12, 0, none⟩ fun x76 =>
       F40_J1 k again9 steps_4p steps_4l steps_4c mask_5 sorted_6 out_7p out_7l out_7c i_8 ⟨n12, 0, none⟩ (decide (x76 > 5)))) (
      F40_J1 k again9 steps_4p steps_4l steps_4c mask_5 sorted_6 out_7p out_7l out_7c i_8 ⟨n12, 0, none⟩ false)))) (
   k (.slice out_7p out_7l out_7c))) (
  k (.slice out_7p out_7l out_7c))
theorem F40_L1_rule {k : Value → W} (I : Option Addr → Nat → Nat → Int → Bool → Option Addr → Nat → Nat → Int → W) (μ : Option Addr → Nat → Nat → Int → Bool → Option Addr → Nat → Nat → Int → World → Nat)
  (hr : ∀ (steps_4p : Option Addr) (steps_4l : Nat) (steps_4c : Nat) (mask_5 : Int) (sorted_6 : Bool) (out_7p : Option Addr) (out_7l : Nat) (out_7c : Nat) (i_8 : Int) (w : World), I steps_4p steps_4l steps_4c mask_5 sorted_6 out_7p out_7l out_7c i_8 w → F40_L1 k (fun steps_4p' steps_4l' steps_4c' mask_5' sorted_6' out_7p' out_7l' out_7c' i_8' w' => I steps_4p' steps_4l' steps_4c' mask_5' sorted_6' out_7p' out_7l' out_7c' i_8' w' ∧ μ steps_4p' steps_4l' steps_4c' mask_5' sorted_6' out_7p' out_7l' out_7c' i_8' w' < μ steps_4p steps_4l steps_4c mask_5 sorted_6 out_7p out_7l out_7c i_8 w) steps_4p steps_4l steps_4c mask_5 sorted_6 out_7p out_7l out_7c i_8 w)
  {w : World} {steps_4p : Option Addr} {steps_4l : Nat} {steps_4c : Nat} {mask_5 : Int} {sorted_6 : Bool} {out_7p : Option Addr} {out_7l : Nat} {out_7c : Nat} {i_8 : Int} (h : I steps_4p steps_4l steps_4c mask_5 sorted_6 out_7p out_7l out_7c i_8 w) : Loop [.slice, (.int .u64), .bool, .slice, (.int .i64)] (F40_L1 k) steps_4p steps_4l steps_4c mask_5 sorted_6 out_7p out_7l out_7c i_8 w :=
  Loop_intro (ts := [.slice, (.int .u64), .bool, .slice, (.int .i64)]) (s := ((steps_4p, steps_4l, steps_4c), mask_5, sorted_6, (out_7p, out_7l, out_7c), i_8, ())) (fun s w => I s.1.1 s.1.2.1 s.1.2.2 s.2.1 s.2.2.1 s.2.2.2.1.1 s.2.2.2.1.2.1 s.2.2.2.1.2.2 s.2.2.2.2.1 w) (fun s w => μ s.1.1 s.1.2.1 s.1.2.2 s.2.1 s.2.2.1 s.2.2.2.1.1 s.2.2.2.1.2.1 s.2.2.2.1.2.2 s.2.2.2.2.1 w) h (fun s w h => hr s.1.1 s.1.2.1 s.1.2.2 s.2.1 s.2.2.1 s.2.2.2.1.1 s.2.2.2.1.2.1 s.2.2.2.1.2.2 s.2.2.2.2.1 w h)
def F40 (k : Value → W) (steps_1p : Option Addr) (steps_1l : Nat) (steps_1c : Nat) (mask_2 : Int) (sorted_3 : Bool) : W :=
 Loop [.slice, (.int .u64), .bool, .slice, (.int .i64)] (F40_L1 k) steps_1p steps_1l steps_1c mask_2 sorted_3 none 0 0 0
theorem F40_eq (k : Value → W) (steps_1p : Option Addr) (steps_1l : Nat) (steps_1c : Nat) (mask_2 : Int) (sorted_3 : Bool) : compF Go.Proofs.Tryd.prog Go.Proofs.Tryd.f40 [(3, [(0, .slice), (1, (.int .u64)), (2, .bool), (7, .slice), (8, (.int .i64))]), (9, [(0, .slice), (1, (.int .u64)), (2, .bool), (7, .slice), (8, (.int .i64)), (9, .addr), (10, (.int .i64))])] (Go.Proofs.Tryd.f40.body.getD .skip) [.slice steps_1p steps_1l steps_1c, .int .u64 mask_2, .bool sorted_3] k = F40 k steps_1p steps_1l steps_1c mask_2 sorted_3 := by kernel_rfl
theorem F40_calls {steps_1p : Option Addr} {steps_1l : Nat} {steps_1c : Nat} {mask_2 : Int} {sorted_3 : Bool} {w : World} {R : Ending → World → Prop} (h : F40 (fun v w => R (.returned v) w) steps_1p steps_1l steps_1c mask_2 sorted_3 w) : Calls Go.Proofs.Tryd.prog 40 #[.slice steps_1p steps_1l steps_1c, .int .u64 mask_2, .bool sorted_3] w R :=
  calls_of_compF noNum follows [(3, [(0, .slice), (1, (.int .u64)), (2, .bool), (7, .slice), (8, (.int .i64))]), (9, [(0, .slice), (1, (.int .u64)), (2, .bool), (7, .slice), (8, (.int .i64)), (9, .addr), (10, (.int .i64))])] (f := 40) (fn := Go.Proofs.Tryd.f40) (body := Go.Proofs.Tryd.f40.body.getD .skip) (args := [.slice steps_1p steps_1l steps_1c, .int .u64 mask_2, .bool sorted_3]) rfl rfl (Nat.le_of_ble_eq_true rfl) ((congrFun (F40_eq _ steps_1p steps_1l steps_1c mask_2 sorted_3) w).mpr h)
theorem F40_call {steps_1p : Option Addr} {steps_1l : Nat} {steps_1c : Nat} {mask_2 : Int} {sorted_3 : Bool} {w : World} {g : Fn W (RTy.leaves (.s (.one .slice)))} (h : F40 (fun v => Back (.s (.one .slice)) g (.returned v)) steps_1p steps_1l steps_1c mask_2 sorted_3 w) : CallT Go.Proofs.Tryd.prog 40 [.slice steps_1p steps_1l steps_1c, .int .u64 mask_2, .bool sorted_3] (.s (.one .slice)) g w := F40_calls h

/-! ## laws.deep07Steps -/
def F18_L1 (k : Value → W) (again7 : Option Addr → Nat → Nat → Int → W) (l_5p : Option Addr) (l_5l : Nat) (l_5c : Nat) (i_6 : Int) : W :=
 BIf (decide (i_6 < ((l_5l : Nat) : Int))) (
  NN l_5p fun a8 =>
  Req (0 ≤ i_6 ∧ i_6 < ((l_5l : Nat) : Int)) <|
  LoadT (.int .i64) (a8.add (i_6.toNat * 3)) fun x9 =>
  BIf (decide (x9 > 5)) (
   NN l_5p fun a10 =>
   Req (0 ≤ i_6 ∧ i_6 < ((l_5l : Nat) : Int)) <|
   Store1 (a10.add (i_6.toNat * 3)) (.int .i64 5) <|
   again7 l_5p l_5l l_5c (addI .i64 i_6 1)) (
   again7 l_5p l_5l l_5c (addI .i64 i_6 1))) (
  RawT Go.Proofs.Tryd.prog (Instr.buildSlice 26 1 [(0, .agg #[.int .u64 77, .int .i64 5])].toArray) (.s (.one .slice)) fun s11p s11l s11c =>
  RawT Go.Proofs.Tryd.prog (Instr.buildSlice 31 1 [(0, .int .u64 0)].toArray) (.s (.one .slice)) fun s12p s12l s12c =>
  RawT Go.Proofs.Tryd.prog (Instr.buildSlice 31 1 [(0, .int .u64 77)].toArray) (.s (.one .slice)) fun s13p s13l s13c =>
  RawT Go.Proofs.Tryd.prog (Instr.buildSlice 25 2 [(0, .agg #[.int .i64 1, .slice s11p s11l s11c, .slice s12p s12l s12c]), (1, .agg #[.int .i64 3, .slice none 0 0, .slice s13p s13l s13c])].toArray) (.s (.one .slice)) fun s14p s14l s14c =>
  NextT Go.Proofs.Tryd.prog (builtin .append #[25, 25] 25 [false, false].toArray [.slice l_5p l_5l l_5c, .slice s14p s14l s14c].toArray) (.s (.one .slice)) fun s15p s15l s15c =>
  k (.slice s15p s15l s15c))
theorem F18_L1_rule {k : Value → W} (I : Option Addr → Nat → Nat → Int → W) (μ : Option Addr → Nat → Nat → Int → World → Nat)
  (hr : ∀ (l_5p : Option Addr) (l_5l : Nat) (l_5c : Nat) (i_6 : Int) (w : World), I l_5p l_5l l_5c i_6 w → F18_L1 k (fun l_5p' l_5l' l_5c' i_6' w' => I l_5p' l_5l' l_5c' i_6' w' ∧ μ l_5p' l_5l' l_5c' i_6' w' < μ l_5p l_5l l_5c i_6 w) l_5p l_5l l_5c i_6 w)
  {w : World} {l_5p : Option Addr} {l_5l : Nat} {l_5c : Nat} {i_6 : Int} (h : I l_5p l_5l l_5c i_6 w) : Loop [.slice, (.int .i64)] (F18_L1 k) l_5p l_5l l_5c i_6 w :=
  Loop_intro (ts := [.slice, (.int .i64)]) (s := ((l_5p, l_5l, l_5c), i_6, ())) (fun s w => I s.1.1 s.1.2.1 s.1.2.2 s.2.1 w) (fun s w => μ s.1.1 s.1.2.1 s.1.2.2 s.2.1 w) h (fun s w h => hr s.1.1 s.1.2.1 s.1.2.2 s.2.1 w h)
def F18 (k : Value → W) (steps_1p : Option Addr) (steps_1l : Nat) (steps_1c : Nat) (mask_2 : Int) (sorted_3 : Bool) : W :=
 CallT Go.Proofs.Tryd.prog 40 [.slice steps_1p steps_1l steps_1c, .int .u64 mask_2, .bool sorted_3] (.s (.one .slice)) fun s4p s4l s4c =>
 Loop [.slice, (.int .i64)] (F18_L1 k) s4p s4l s4c 0
theorem F18_eq (k : Value → W) (steps_1p : Option Addr) (steps_1l : Nat) (steps_1c : Nat) (mask_2 : Int) (sorted_3 : Bool) : compF Go.Proofs.Tryd.prog Go.Proofs.Tryd.f18 [(3, [(7, .slice), (8, (.int .i64))])] (Go.Proofs.Tryd.f18.body.getD .skip) [.slice steps_1p steps_1l steps_1c, .int .u64 mask_2, .bool sorted_3] k = F18 k steps_1p steps_1l steps_1c mask_2 sorted_3 := by kernel_rfl
theorem F18_calls {steps_1p : Option Addr} {steps_1l : Nat} {steps_1c : Nat} {mask_2 : Int} {sorted_3 : Bool} {w : World} {R : Ending → World → Prop} (h : F18 (fun v w => R (.returned v) w) steps_1p steps_1l steps_1c mask_2 sorted_3 w) : Calls Go.Proofs.Tryd.prog 18 #[.slice steps_1p steps_1l steps_1c, .int .u64 mask_2, .bool sorted_3] w R :=
  calls_of_compF noNum follows [(3, [(7, .slice), (8, (.int .i64))])] (f := 18) (fn := Go.Proofs.Tryd.f18) (body := Go.Proofs.Tryd.f18.body.getD .skip) (args := [.slice steps_1p steps_1l steps_1c, .int .u64 mask_2, .bool sorted_3]) rfl rfl (Nat.le_of_ble_eq_true rfl) ((congrFun (F18_eq _ steps_1p steps_1l steps_1c mask_2 sorted_3) w).mpr h)
theorem F18_call {steps_1p : Option Addr} {steps_1l : Nat} {steps_1c : Nat} {mask_2 : Int} {sorted_3 : Bool} {w : World} {g : Fn W (RTy.leaves (.s (.one .slice)))} (h : F18 (fun v => Back (.s (.one .slice)) g (.returned v)) steps_1p steps_1l steps_1c mask_2 sorted_3 w) : CallT Go.Proofs.Tryd.prog 18 [.slice steps_1p steps_1l steps_1c, .int .u64 mask_2, .bool sorted_3] (.s (.one .slice)) g w := F18_calls h

/-! ## laws.deep07Turned -/
def F19_L2 (k : Value → W) (again8 : Option Addr → Nat → Nat → Option Addr → Nat → Nat → Int → Int → W) (again26 : Option Addr → Nat → Nat → Option Addr → Nat → Nat → Int → Int → Int → W) (a_21p : Option Addr) (a_21l : Nat) (a_21c : Nat) (b_22p : Option Addr) (b_22l : Nat) (b_22c : Nat) (by_23 : Int) (i_24 : Int) (k_25 : Int) : W :=
 NN a_21p fun a27 =>
 Req (0 ≤ i_24 ∧ i_24 < ((a_21l : Nat) : Int)) <|
 LoadT .slice (a27.add (i_24.toNat * 3)) fun s28p s28l s28c =>
 BIf (decide (k_25 < ((s28l : Nat) : Int))) (
  Drw <|
  NN a_21p fun a29 =>
  Req (0 ≤ i_24 ∧ i_24 < ((a_21l : Nat) : Int)) <|
  LoadT .slice (a29.add (i_24.toNat * 3)) fun s30p s30l s30c =>
  NN s30p fun a31 =>
  Req (0 ≤ k_25 ∧ k_25 < ((s30l : Nat) : Int)) <|
  LoadT (.int .i64) ((a31.add (k_25.toNat * 2)).add 1) fun x32 =>
  NN b_22p fun a33 =>
  Req (0 ≤ i_24 ∧ i_24 < ((b_22l : Nat) : Int)) <|
  LoadT .slice (a33.add (i_24.toNat * 3)) fun s34p s34l s34c =>
  NN s34p fun a35 =>
  Req (0 ≤ k_25 ∧ k_25 < ((s34l : Nat) : Int)) <|
  LoadT (.int .i64) ((a35.add (k_25.toNat * 2)).add 1) fun x36 =>
  BIf (x32 != x36) (
   k (.bool false)) (
   NN a_21p fun a37 =>
   Req (0 ≤ i_24 ∧ i_24 < ((a_21l : Nat) : Int)) <|
   LoadT .slice (a37.add (i_24.toNat * 3)) fun s38p s38l s38c =>
   NN s38p fun a39 =>
   Req (0 ≤ k_25 ∧ k_25 < ((s38l : Nat) : Int)) <|
   LoadT (.int .u64) (a39.add (k_25.toNat * 2)) fun x40 =>
   NN b_22p fun a41 =>
   Req (0 ≤ i_24 ∧ i_24 < ((b_22l : Nat) : Int)) <|
   LoadT .slice (a41.add (i_24.toNat * 3)) fun s42p s42l s42c =>
   NN s42p fun a43 =>
   Req (0 ≤ k_25 ∧ k_25 < ((s42l : Nat) : Int)) <|
   LoadT (.int .u64) (a43.add (k_25.toNat * 2)) fun x44 =>
   BIf (x40 != (xorI .u64 x44 by_23)) (
    k (.bool false)) (
    again26 a_21p a_21l a_21c b_22p b_22l b_22c by_23 i_24 (addI .i64 k_25 1)))) (
  again8 a_21p a_21l a_21c b_22p b_22l b_22c by_23 (addI .i64 i_24 1))
theorem F19_L2_rule {k : Value → W} {again8 : Option Addr → Nat → Nat → Option Addr → Nat → Nat → Int → Int → W} (I : Option Addr → Nat → Nat → Option Addr → Nat → Nat → Int → Int → Int → W) (μ : Option Addr → Nat → Nat → Option Addr → Nat → Nat → Int → Int → Int → World → Nat)
  (hr : ∀ (a_21p : Option Addr) (a_21l : Nat) (a_21c : Nat) (b_22p : Option Addr) (b_22l : Nat) (b_22c : Nat) (by_23 : Int) (i_24 : Int) (k_25 : Int) (w : World), I a_21p a_21l a_21c b_22p b_22l b_22c by_23 i_24 k_25 w → F19_L2 k again8 (fun a_21p' a_21l' a_21c' b_22p' b_22l' b_22c' by_23' i_24' k_25' w' => I a_21p' a_21l' a_21c' b_22p' b_22l' b_22c' by_23' i_24' k_25' w' ∧ μ a_21p' a_21l' a_21c' b_22p' b_22l' b_22c' by_23' i_24' k_25' w' < μ a_21p a_21l a_21c b_22p b_22l b_22c by_23 i_24 k_25 w) a_21p a_21l a_21c b_22p b_22l b_22c by_23 i_24 k_25 w)
  {w : World} {a_21p : Option Addr} {a_21l : Nat} {a_21c : Nat} {b_22p : Option Addr} {b_22l : Nat} {b_22c : Nat} {by_23 : Int} {i_24 : Int} {k_25 : Int} (h : I a_21p a_21l a_21c b_22p b_22l b_22c by_23 i_24 k_25 w) : Loop [.slice, .slice, (.int .u64), (.int .i64), (.int .i64)] (F19_L2 k again8) a_21p a_21l a_21c b_22p b_22l b_22c by_23 i_24 k_25 w :=
  Loop_intro (ts := [.slice, .slice, (.int .u64), (.int .i64), (.int .i64)]) (s := ((a_21p, a_21l, a_21c), (b_22p, b_22l, b_22c), by_23, i_24, k_25, ())) (fun s w => I s.1.1 s.1.2.1 s.1.2.2 s.2.1.1 s.2.1.2.1 s.2.1.2.2 s.2.2.1 s.2.2.2.1 s.2.2.2.2.1 w) (fun s w => μ s.1.1 s.1.2.1 s.1.2.2 s.2.1.1 s.2.1.2.1 s.2.1.2.2 s.2.2.1 s.2.2.2.1 s.2.2.2.2.1 w) h (fun s w h => hr s.1.1 s.1.2.1 s.1.2.2 s.2.1.1 s.2.1.2.1 s.2.1.2.2 s.2.2.1 s.2.2.2.1 s.2.2.2.2.1 w h)
def F19_L1 (k : Value → W) (again8 : Option Addr → Nat → Nat → Option Addr → Nat → Nat → Int → Int → W) (a_4p : Option Addr) (a_4l : Nat) (a_4c : Nat) (b_5p : Option Addr) (b_5l : Nat) (b_5c : Nat) (by_6 : Int) (i_7 : Int) : W :=
 BIf (decide (i_7 < ((a_4l : Nat) : Int))) (
  Drw <|
  NN a_4p fun a9 =>
  Req (0 ≤ i_7 ∧ i_7 < ((a_4l : Nat) : Int)) <|
  LoadT (.int .u64) ((a9.add (i_7.toNat * 3)).add 1) fun x10 =>
  NN b_5p fun a11 =>
  Req (0 ≤ i_7 ∧ i_7 < ((b_5l : Nat) : Int)) <|
  LoadT (.int .u64) ((a11.add (i_7.toNat * 3)).add 1) fun x12 =>
  BIf (x10 != x12) (
   k (.bool false)) (
   NN a_4p fun a13 =>
   Req (0 ≤ i_7 ∧ i_7 < ((a_4l : Nat) : Int)) <|
   LoadT .bool ((a13.add (i_7.toNat * 3)).add 2) fun b14 =>
   NN b_5p fun a15 =>
   Req (0 ≤ i_7 ∧ i_7 < ((b_5l : Nat) : Int)) <|
   LoadT .bool ((a15.add (i_7.toNat * 3)).add 2) fun b16 =>
   BIf (!(b14 == b16)) (
    k (.bool false)) (
    NN a_4p fun a17 =>
    Req (0 ≤ i_7 ∧ i_7 < ((a_4l : Nat) : Int)) <|
    LoadT .slice (a17.add (i_7.toNat * 3)) fun s18p s18l s18c =>
    NN b_5p fun a19 =>
    Req (0 ≤ i_7 ∧ i_7 < ((b_5l : Nat) : Int)) <|
    LoadT .slice (a19.add (i_7.toNat * 3)) fun s20p s20l s20c =>
    BIf (((s18l : Nat) : Int) != ((s20l : Nat) : Int)) (
     k (.bool false)) (
     Loop [.slice, .slice, (.int .u64), (.int .i64), (.int .i64)] (F19_L2 k again8) a_4p a_4l a_4c b_5p b_5l b_5c by_6 i_7 0)))) (
  NN a_4p fun a45 =>
  Req (0 ≤ subI .i64 ((a_4l : Nat) : Int) 1 ∧ subI .i64 ((a_4l : Nat) : Int) 1 < ((a_4l : Nat) : Int)) <|
  LoadT .slice (a45.add ((subI .i64 ((a_4l : Nat) : Int) 1).toNat * 3)) fun s46p s46l s46c =>
  Bind (((s46l : Nat) : Int) == 1) fun y47 =>
  k (.bool y47))
theorem F19_L1_rule {k : Value → W} (I : Option Addr → Nat → Nat → Option Addr → Nat → Nat → Int → Int → W) (μ : Option Addr → Nat → Nat → Option Addr → Nat → Nat → Int → Int → World → Nat)
  (hr : ∀ (a_4p : Option Addr) (a_4l : Nat) (a_4c : Nat) (b_5p : Option Addr) (b_5l : Nat) (b_5c : Nat) (by_6 : Int) (i_7 : Int) (w : World), I a_4p a_4l a_4c b_5p b_5l b_5c by_6 i_7 w → F19_L1 k (fun a_4p' a_4l' a_4c' b_5p' b_5l' b_5c' by_6' i_7' w' => I a_4p' a_4l' a_4c' b_5p' b_5l' b_5c' by_6' i_7' w' ∧ μ a_4p' a_4l' a_4c' b_5p' b_5l' b_5c' by_6' i_7' w' < μ a_4p a_4l a_4c b_5p b_5l b_5c by_6 i_7 w) a_4p a_4l a_4c b_5p b_5l b_5c by_6 i_7 w)
  {w : World} {a_4p : Option Addr} {a_4l : Nat} {a_4c : Nat} {b_5p : Option Addr} {b_5l : Nat} {b_5c : Nat} {by_6 : Int} {i_7 : Int} (h : I a_4p a_4l a_4c b_5p b_5l b_5c by_6 i_7 w) : Loop [.slice, .slice, (.int .u64), (.int .i64)] (F19_L1 k) a_4p a_4l a_4c b_5p b_5l b_5c by_6 i_7 w :=
  Loop_intro (ts := [.slice, .slice, (.int .u64), (.int .i64)]) (s := ((a_4p, a_4l, a_4c), (b_5p, b_5l, b_5c), by_6, i_7, ())) (fun s w => I s.1.1 s.1.2.1 s.1.2.2 s.2.1.1 s.2.1.2.1 s.2.1.2.2 s.2.2.1 s.2.2.2.1 w) (fun s w => μ s.1.1 s.1.2.1 s.1.2.2 s.2.1.1 s.2.1.2.1 s.2.1.2.2 s.2.2.1 s.2.2.2.1 w) h (fun s w h => hr s.1.1 s.1.2.1 s.1.2.2 s.2.1.1 s.2.1.2.1 s.2.1.2.2 s.2.2.1 s.2.2.2.1 w h)
def F19 (k : Value → W) (a_1p : Option Addr) (a_1l : Nat) (a_1c : Nat) (b_2p : Option Addr) (b_2l : Nat) (b_2c : Nat) (by_3 : Int) : W :=
 BIf (((a_1l : Nat) : Int) != ((b_2l : Nat) : Int)) (
  k (.bool false)) (
  BIf (((a_1l : Nat) : Int) == 0) (
   k (.bool false)) (
   Loop [.slice, .slice, (.int .u64), (.int .i64)] (F19_L1 k) a_1p a_1l a_1c b_2p b_2l b_2c by_3 0))
theorem F19_eq (k : Value → W) (a_1p : Option Addr) (a_1l : Nat) (a_1c : Nat) (b_2p : Option Addr) (b_2l : Nat) (b_2c : Nat) (by_3 : Int) : compF Go.Proofs.Tryd.prog Go.Proofs.Tryd.f19 [(4, [(0, .slice), (1, .slice), (2, (.int .u64)), (7, (.int .i64))]), (9, [(0, .slice), (1, .slice), (2, (.int .u64)), (7, (.int .i64)), (8, (.int .i64))])] (Go.Proofs.Tryd.f19.body.getD .skip) [.slice a_1p a_1l a_1c, .slice b_2p b_2l b_2c, .int .u64 by_3] k = F19 k a_1p a_1l a_1c b_2p b_2l b_2c by_3 := by kernel_rfl
theorem F19_calls {a_1p : Option Addr} {a_1l : Nat} {a_1c : Nat} {b_2p : Option Addr} {b_2l : Nat} {b_2c : Nat} {by_3 : Int} {w : World} {R : Ending → World → Prop} (h : F19 (fun v w => R (.returned v) w) a_1p a_1l a_1c b_2p b_2l b_2c by_3 w) : Calls Go.Proofs.Tryd.prog 19 #[.slice a_1p a_1l a_1c, .slice b_2p b_2l b_2c, .int .u64 by_3] w R :=
  calls_of_compF noNum follows [(4, [(0, .slice), (1, .slice), (2, (.int .u64)), (7, (.int .i64))]), (9, [(0, .slice), (1, .slice), (2, (.int .u64)), (7, (.int .i64)), (8, (.int .i64))])] (f := 19) (fn := Go.Proofs.Tryd.f19) (body := Go.Proofs.Tryd.f19.body.getD .skip) (args := [.slice a_1p a_1l a_1c, .slice b_2p b_2l b_2c, .int .u64 by_3]) rfl rfl (Nat.le_of_ble_eq_true rfl) ((congrFun (F19_eq _ a_1p a_1l a_1c b_2p b_2l b_2c by_3) w).mpr h)
theorem F19_call {a_1p : Option Addr} {a_1l : Nat} {a_1c : Nat} {b_2p : Option Addr} {b_2l : Nat} {b_2c : Nat} {by_3 : Int} {w : World} {g : Fn W (RTy.leaves (.s (.one .bool)))} (h : F19 (fun v => Back (.s (.one .bool)) g (.returned v)) a_1p a_1l a_1c b_2p b_2l b_2c by_3 w) : CallT Go.Proofs.Tryd.prog 19 [.slice a_1p a_1l a_1c, .slice b_2p b_2l b_2c, .int .u64 by_3] (.s (.one .bool)) g w := F19_calls h

/-! ## laws.deep07Xor -/
def F20_L3 (k : Value → W) (again7 : Option Addr → Nat → Nat → Int → Option Addr → Nat → Nat → Int → W) (again37 : Option Addr → Nat → Nat → Int → Option Addr → Nat → Nat → Int → Addr → Int → W) (l_31p : Option Addr) (l_31l : Nat) (l_31c : Nat) (by_32 : Int) (out_33p : Option Addr) (out_33l : Nat) (out_33c : Nat) (i_34 : Int) (s_35 : Addr) (k_36 : Int) : W :=
 NN l_31p fun a38 =>
 Req (0 ≤ i_34 ∧ i_34 < ((l_31l : Nat) : Int)) <|
 LoadT .slice ((a38.add (i_34.toNat * 3)).add 2) fun s39p s39l s39c =>
 BIf (decide (k_36 < ((s39l : Nat) : Int))) (
  Drw <|
  LoadT .slice (s_35.add 2) fun s40p s40l s40c =>
  NN l_31p fun a41 =>
  Req (0 ≤ i_34 ∧ i_34 < ((l_31l : Nat) : Int)) <|
  LoadT .slice ((a41.add (i_34.toNat * 3)).add 2) fun s42p s42l s42c =>
  NN s42p fun a43 =>
  Req (0 ≤ k_36 ∧ k_36 < ((s42l : Nat) : Int)) <|
  LoadT (.int .u64) (a43.add k_36.toNat) fun x44 =>
  RawT Go.Proofs.Tryd.prog (Instr.buildSlice 31 1 [(0, .int .u64 (xorI .u64 x44 by_32))].toArray) (.s (.one .slice)) fun s45p s45l s45c =>
  Chk1 (a43.add k_36.toNat) (.int .u64 x44) <|
  Chk1 ((a41.add (i_34.toNat * 3)).add 2) (.slice s42p s42l s42c) <|
  Chk1 (s_35.add 2) (.slice s40p s40l s40c) <|
  NextT Go.Proofs.Tryd.prog (builtin .append #[31, 31] 31 [false, false].toArray [.slice s40p s40l s40c, .slice s45p s45l s45c].toArray) (.s (.one .slice)) fun s46p s46l s46c =>
  Chk1 (a43.add k_36.toNat) (.int .u64 x44) <|
  Chk1 ((a41.add (i_34.toNat * 3)).add 2) (.slice s42p s42l s42c) <|
  Store1 (s_35.add 2) (.slice s46p s46l s46c) <|
  again37 l_31p l_31l l_31c by_32 out_33p out_33l out_33c i_34 s_35 (addI .i64 k_36 1)) (
  LoadT (.int .i64) (s_35.add 0) fun x47 =>
  LoadT .slice (s_35.add 1) fun s48p s48l s48c =>
  LoadT .slice (s_35.add 2) fun s49p s49l s49c =>
  RawT Go.Proofs.Tryd.prog (Instr.buildSlice 25 1 [(0, .agg #[.int .i64 x47, .slice s48p s48l s48c, .slice s49p s49l s49c])].toArray) (.s (.one .slice)) fun s50p s50l s50c =>
  NextT Go.Proofs.Tryd.prog (builtin .append #[25, 25] 25 [false, false].toArray [.slice out_33p out_33l out_33c, .slice s50p s50l s50c].toArray) (.s (.one .slice)) fun s51p s51l s51c =>
  again7 l_31p l_31l l_31c by_32 s51p s51l s51c (addI .i64 i_34 1))
theorem F20_L3_rule {k : Value → W} {again7 : Option Addr → Nat → Nat → Int → Option Addr → Nat → Nat → Int → W} (I : Option Addr → Nat → Nat → Int → Option Addr → Nat → Nat → Int → Addr → Int → W) (μ : Option Addr → Nat → Nat → Int → Option Addr → Nat → Nat → Int → Addr → Int → World → Nat)
  (hr : ∀ (l_31p : Option Addr) (l_31l : Nat) (l_31c : Nat) (by_32 : Int) (out_33p : Option Addr) (out_33l : Nat) (out_33c : Nat) (i_34 : Int) (s_35 : Addr) (k_36 : Int) (w : World), I l_31p l_31l l_31c by_32 out_33p out_33l out_33c i_34 s_35 k_36 w → F20_L3 k again7 (fun l_31p' l_31l' l_31c' by_32' out_33p' out_33l' out_33c' i_34' s_35' k_36' w' => I l_31p' l_31l' l_31c' by_32' out_33p' out_33l' out_33c' i_34' s_35' k_36' w' ∧ μ l_31p' l_31l' l_31c' by_32' out_33p' out_33l' out_33c' i_34' s_35' k_36' w' < μ l_31p l_31l l_31c by_32 out_33p out_33l out_33c i_34 s_35 k_36 w) l_31p l_31l l_31c by_32 out_33p out_33l out_33c i_34 s_35 k_36 w)
  {w : World} {l_31p : Option Addr} {l_31l : Nat} {l_31c : Nat} {by_32 : Int} {out_33p : Option Addr} {out_33l : Nat} {out_33c : Nat} {i_34 : Int} {s_35 : Addr} {k_36 : Int} (h : I l_31p l_31l l_31c by_32 out_33p out_33l out_33c i_34 s_35 k_36 w) : Loop [.slice, (.int .u64), .slice, (.int .i64), .addr, (.int .i64)] (F20_L3 k again7) l_31p l_31l l_31c by_32 out_33p out_33l out_33c i_34 s_35 k_36 w :=
  Loop_intro (ts := [.slice, (.int .u64), .slice, (.int .i64), .addr, (.int .i64)]) (s := ((l_31p, l_31l, l_31c), by_32, (out_33p, out_33l, out_33c), i_34, s_35, k_36, ())) (fun s w => I s.1.1 s.1.2.1 s.1.2.2 s.2.1 s.2.2.1.1 s.2.2.1.2.1 s.2.2.1.2.2 s.2.2.2.1 s.2.2.2.2.1 s.2.2.2.2.2.1 w) (fun s w => μ s.1.1 s.1.2.1 s.1.2.2 s.2.1 s.2.2.1.1 s.2.2.1.2.1 s.2.2.1.2.2 s.2.2.2.1 s.2.2.2.2.1 s.2.2.2.2.2.1 w) h (fun s w h => hr s.1.1 s.1.2.1 s.1.2.2 s.2.1 s.2.2.1.1 s.2.2.1.2.1 s.2.2.1.2.2 s.2.2.2.1 s.2.2.2.2.1 s.2.2.2.2.2.1 w h)
def F20_L2 (k : Value → W) (again7 : Option Addr → Nat → Nat → Int → Option Addr → Nat → Nat → Int → W) (again17 : Option Addr → Nat → Nat → Int → Option Addr → Nat → Nat → Int → Addr → Int → W) (l_11p : Option Addr) (l_11l : Nat) (l_11c : Nat) (by_12 : Int) (out_13p : Option Addr) (out_13l : Nat) (out_13c : Nat) (i_14 : Int) (s_15 : Addr) (k_16 : Int) : W :=
 NN l_11p fun a18 =>
 Req (0 ≤ i_14 ∧ i_14 < ((l_11l : Nat) : Int)) <|
 LoadT .slice ((a18.add (i_14.toNat * 3)).add 1) fun s19p s19l s19c =>
 BIf (decide (k_16 < ((s19l : Nat) : Int))) (
  Drw <|
  LoadT .slice (s_15.add 1) fun s20p s20l s20c =>
  NN l_11p fun a21 =>
  Req (0 ≤ i_14 ∧ i_14 < ((l_11l : Nat) : Int)) <|
  LoadT .slice ((a21.add (i_14.toNat * 3)).add 1) fun s22p s22l s22c =>
  NN s22p fun a23 =>
  Req (0 ≤ k_16 ∧ k_16 < ((s22l : Nat) : Int)) <|
  LoadT (.int .u64) (a23.add (k_16.toNat * 2)) fun x24 =>
  NN l_11p fun a25 =>
  Req (0 ≤ i_14 ∧ i_14 < ((l_11l : Nat) : Int)) <|
  LoadT .slice ((a25.add (i_14.toNat * 3)).add 1) fun s26p s26l s26c =>
  NN s26p fun a27 =>
  Req (0 ≤ k_16 ∧ k_16 < ((s26l : Nat) : Int)) <|
  LoadT (.int .i64) ((a27.add (k_16.toNat * 2)).add 1) fun x28 =>
  RawT Go.Proofs.Tryd.prog (Instr.buildSlice 26 1 [(0, .agg #[.int .u64 (xorI .u64 x24 by_12), .int .i64 x28])].toArray) (.s (.one .slice)) fun s29p s29l s29c =>
  Chk1 ((a27.add (k_16.toNat * 2)).add 1) (.int .i64 x28) <|
  Chk1 ((a25.add (i_14.toNat * 3)).add 1) (.slice s26p s26l s26c) <|
  Chk1 (a23.add (k_16.toNat * 2)) (.int .u64 x24) <|
  Chk1 ((a21.add (i_14.toNat * 3)).add 1) (.slice s22p s22l s22c) <|
  Chk1 (s_15.add 1) (.slice s20p s20l s20c) <|
  NextT Go.Proofs.Tryd.prog (builtin .append #[26, 26] 26 [false, false].toArray [.slice s20p s20l s20c, .slice s29p s29l s29c].toArray) (.s (.one .slice)) fun s30p s30l s30c =>
  Chk1 ((a27.add (k_16.toNat * 2)).add 1) (.int .i64 x28) <|
  Chk1 ((a25.add (i_14.toNat * 3)).add 1) (.slice s26p s26l s26c) <|
  Chk1 (a23.add (k_16.toNat * 2)) (.int .u64 x24) <|
  Chk1 ((a21.add (i_14.toNat * 3)).add 1) (.slice s22p s22l s22c) <|
  Store1 (s_15.add 1) (.slice s30p s30l s30c) <|
  again17 l_11p l_11l l_11c by_12 out_13p out_13l out_13c i_14 s_15 (addI .i64 k_16 1)) (
  Loop [.slice, (.int .u64), .slice, (.int .i64), .addr, (.int .i64)] (F20_L3 k again7) l_11p l_11l l_11c by_12 out_13p out_13l out_13c i_14 s_15 0)
theorem F20_L2_rule {k : Value → W} {again7 : Option Addr → Nat → Nat → Int → Option Addr → Nat → Nat → Int → W} (I : Option Addr → Nat → Nat → Int → Option Addr → Nat → Nat → Int → Addr → Int → W) (μ : Option Addr → Nat → Nat → Int → Option Addr → Nat → Nat → Int → Addr → Int → World → Nat)
  (hr : ∀ (l_11p : Option Addr) (l_11l : Nat) (l_11c : Nat) (by_12 : Int) (out_13p : Option Addr) (out_13l : Nat) (out_13c : Nat) (i_14 : Int) (s_15 : Addr) (k_16 : Int) (w : World), I l_11p l_11l l_11c by_12 out_13p out_13l out_13c i_14 s_15 k_16 w → F20_L2 k again7 (fun l_11p' l_11l' l_11c' by_12' out_13p' out_13l' out_13c' i_14' s_15' k_16' w' => I l_11p' l_11l' l_11c' by_12' out_13p' out_13l' out_13c' i_14' s_15' k_16' w' ∧ μ l_11p' l_11l' l_11c' by_12' out_13p' out_13l' out_13c' i_14' s_15' k_16' w' < μ l_11p l_11l l_11c by_12 out_13p out_13l out_13c i_14 s_15 k_16 w) l_11p l_11l l_11c by_12 out_13p out_13l out_13c i_14 s_15 k_16 w)
  {w : World} {l_11p : Option Addr} {l_11l : Nat} {l_11c : Nat} {by_12 : Int} {out_13p : Option Addr} {out_13l : Nat} {out_13c : Nat} {i_14 : Int} {s_15 : Addr} {k_16 : Int} (h : I l_11p l_11l l_11c by_12 out_13p out_13l out_13c i_14 s_15 k_16 w) : Loop [.slice, (.int .u64), .slice, (.int .i64), .addr, (.int .i64)] (F20_L2 k again7) l_11p l_11l l_11c by_12 out_13p out_13l out_13c i_14 s_15 k_16 w :=
  Loop_intro (ts := [.slice, (.int .u64), .slice, (.int .i64), .addr, (.int .i64)]) (s := ((l_11p, l_11l, l_11c), by_12, (out_13p, out_13l, out_13c), i_14, s_15, k_16, ())) (fun s w => I s.1.1 s.1.2.1 s.1.2.2 s.2.1 s.2.2.1.1 s.2.2.1.2.1 s.2.2.1.2.2 s.2.2.2.1 s.2.2.2.2.1 s.2.2.2.2.2.1 w) (fun s w => μ s.1.1 s.1.2.1 s.1.2.2 s.2.1 s.2.2.1.1 s.2.2.1.2.1 s.2.2.1.2.2 s.2.2.2.1 s.2.2.2.2.1 s.2.2.2.2.2.1 w) h (fun s w h => hr s.1.1 s.1.2.1 s.1.2.2 s.2.1 s.2.2.1.1 s.2.2.1.2.1 s.2.2.1.2.2 s.2.2.2.1 s.2.2.2.2.1 s.2.2.2.2.2.1 w h)
def F20_L1 (k : Value → W) (again7 : Option Addr → Nat → Nat → Int → Option Addr → Nat → Nat → Int → W) (l_3p : Option Addr) (l_3l : Nat) (l_3c : Nat) (by_4 : Int) (out_5p : Option Addr) (out_5l : Nat) (out_5c : Nat) (i_6 : Int) : W :=
 BIf (decide (i_6 < ((l_3l : Nat) : Int))) (
  NN l_3p fun a8 =>
  Req (0 ≤ i_6 ∧ i_6 < ((l_3l : Nat) : Int)) <|
  LoadT (.int .i64) (a8.add (i_6.toNat * 3)) fun x9 =>
  New [.int .i64 0, .slice none 0 0, .slice none 0 0] 33 fun n10 =>
  Store1 ⟨n10, 0, none⟩ (.int .i64 x9) <|
  Store1 ⟨n10, 1, none⟩ (.slice none 0 0) <|
  Store1 ⟨n10, 2, none⟩ (.slice none 0 0) <|
  Loop [.slice, (.int .u64), .slice, (.int .i64), .addr, (.int .i64)] (F20_L2 k again7) l_3p l_3l l_3c by_4 out_5p out_5l out_5c i_6 ⟨n10, 0, none⟩ 0) (
  k (.slice out_5p out_5l out_5c))
theorem F20_L1_rule {k : Value → W} (I : Option Addr → Nat → Nat → Int → Option Addr → Nat → Nat → Int → W) (μ : Option Addr → Nat → Nat → Int → Option Addr → Nat → Nat → Int → World → Nat)
  (hr : ∀ (l_3p : Option Addr) (l_3l : Nat) (l_3c : Nat) (by_4 : Int) (out_5p : Option Addr) (out_5l : Nat) (out_5c : Nat) (i_6 : Int) (w : World), I l_3p l_3l l_3c by_4 out_5p out_5l out_5c i_6 w → F20_L1 k (fun l_3p' l_3l' l_3c' by_4' out_5p' out_5l' out_5c' i_6' w' => I l_3p' l_3l' l_3c' by_4' out_5p' out_5l' out_5c' i_6' w' ∧ μ l_3p' l_3l' l_3c' by_4' out_5p' out_5l' out_5c' i_6' w' < μ l_3p l_3l l_3c by_4 out_5p out_5l out_5c i_6 w) l_3p l_3l l_3c by_4 out_5p out_5l out_5c i_6 w)
  {w : World} {l_3p : Option Addr} {l_3l : Nat} {l_3c : Nat} {by_4 : Int} {out_5p : Option Addr} {out_5l : Nat} {out_5c : Nat} {i_6 : Int} (h : I l_3p l_3l l_3c by_4 out_5p out_5l out_5c i_6 w) : Loop [.slice, (.int .u64), .slice, (.int .i64)] (F20_L1 k) l_3p l_3l l_3c by_4 out_5p out_5l out_5c i_6 w :=
  Loop_intro (ts := [.slice, (.int .u64), .slice, (.int .i64)]) (s := ((l_3p, l_3l, l_3c), by_4, (out_5p, out_5l, out_5c), i_6, ())) (fun s w => I s.1.1 s.1.2.1 s.1.2.2 s.2.1 s.2.2.1.1 s.2.2.1.2.1 s.2.2.1.2.2 s.2.2.2.1 w) (fun s w => μ s.1.1 s.1.2.1 s.1.2.2 s.2.1 s.2.2.1.1 s.2.2.1.2.1 s.2.2.1.2.2 s.2.2.2.1 w) h (fun s w h => hr s.1.1 s.1.2.1 s.1.2.2 s.2.1 s.2.2.1.1 s.2.2.1.2.1 s.2.2.1.2.2 s.2.2.2.1 w h)
def F20 (k : Value → W) (l_1p : Option Addr) (l_1l : Nat) (l_1c : Nat) (by_2 : Int) : W :=
 Loop [.slice, (.int .u64), .slice, (.int .i64)] (F20_L1 k) l_1p l_1l l_1c by_2 none 0 0 0
theorem F20_eq (k : Value → W) (l_1p : Option Addr) (l_1l : Nat) (l_1c : Nat) (by_2 : Int) : compF Go.Proofs.Tryd.prog Go.Proofs.Tryd.f20 [(3, [(0, .slice), (1, (.int .u64)), (5, .slice), (6, (.int .i64))]), (7, [(0, .slice), (1, (.int .u64)), (5, .slice), (6, (.int .i64)), (7, .addr), (8, (.int .i64))]), (11, [(0, .slice), (1, (.int .u64)), (5, .slice), (6, (.int .i64)), (7, .addr), (9, (.int .i64))])] (Go.Proofs.Tryd.f20.body.getD .skip) [.slice l_1p l_1l l_1c, .int .u64 by_2] k = F20 k l_1p l_1l l_1c by_2 := by kernel_rfl
theorem F20_calls {l_1p : Option Addr} {l_1l : Nat} {l_1c : Nat} {by_2 : Int} {w : World} {R : Ending → World → Prop} (h : F20 (fun v w => R (.returned v) w) l_1p l_1l l_1c by_2 w) : Calls Go.Proofs.Tryd.prog 20 #[.slice l_1p l_1l l_1c, .int .u64 by_2] w R :=
  calls_of_compF noNum follows [(3, [(0, .slice), (1, (.int .u64)), (5, .slice), (6, (.int .i64))]), (7, [(0, .slice), (1, (.int .u64)), (5, .slice), (6, (.int .i64)), (7, .addr), (8, (.int .i64))]), (11, [(0, .slice), (1, (.int .u64)), (5, .slice), (6, (.int .i64)), (7, .addr), (9, (.int .i64))])] (f := 20) (fn := Go.Proofs.Tryd.f20) (body := Go.Proofs.Tryd.f20.body.getD .skip) (args := [.slice l_1p l_1l l_1c, .int .u64 by_2]) rfl rfl (Nat.le_of_ble_eq_true rfl) ((congrFun (F20_eq _ l_1p l_1l l_1c by_2) w).mpr h)
theorem F20_call {l_1p : Option Addr} {l_1l : Nat} {l_1c : Nat} {by_2 : Int} {w : World} {g : Fn W (RTy.leaves (.s (.one .slice)))} (h : F20 (fun v => Back (.s (.one .slice)) g (.returned v)) l_1p l_1l l_1c by_2 w) : CallT Go.Proofs.Tryd.prog 20 [.slice l_1p l_1l l_1c, .int .u64 by_2] (.s (.one .slice)) g w := F20_calls h

/-! ## laws.FnYFDeepTurned -/
def F5 (k : Value → W) (size_1 : Int) (steps_2p : Option Addr) (steps_2l : Nat) (steps_2c : Nat) (by_3 : Int) : W :=
 CallT Go.Proofs.Tryd.prog 17 [.slice steps_2p steps_2l steps_2c] (.s (.one .bool)) fun b4 =>
 BIf (!b4) (
  k (.bool true)) (
  CallT Go.Proofs.Tryd.prog 7 [.int .u8 size_1] (.s (.one (.int .i64))) fun x5 =>
  CallT Go.Proofs.Tryd.prog 13 [.int .i64 x5] (.s (.one (.int .u64))) fun x6 =>
  CallT Go.Proofs.Tryd.prog 18 [.slice steps_2p steps_2l steps_2c, .int .u64 x6, .bool false] (.s (.one .slice)) fun s7p s7l s7c =>
  CallT Go.Proofs.Tryd.prog 13 [.int .i64 x5] (.s (.one (.int .u64))) fun x8 =>
  CallT Go.Proofs.Tryd.prog 15 [.int .i64 x5, .slice s7p s7l s7c] (.s (.one .slice)) fun s9p s9l s9c =>
  CallT Go.Proofs.Tryd.prog 20 [.slice s7p s7l s7c, .int .u64 (andI .u64 by_3 x8)] (.s (.one .slice)) fun s10p s10l s10c =>
  CallT Go.Proofs.Tryd.prog 15 [.int .i64 x5, .slice s10p s10l s10c] (.s (.one .slice)) fun s11p s11l s11c =>
  CallT Go.Proofs.Tryd.prog 19 [.slice s9p s9l s9c, .slice s11p s11l s11c, .int .u64 (andI .u64 by_3 x8)] (.s (.one .bool)) fun b12 =>
  k (.bool b12))
theorem F5_eq (k : Value → W) (size_1 : Int) (steps_2p : Option Addr) (steps_2l : Nat) (steps_2c : Nat) (by_3 : Int) : compF Go.Proofs.Tryd.prog Go.Proofs.Tryd.f5 [] (Go.Proofs.Tryd.f5.body.getD .skip) [.int .u8 size_1, .slice steps_2p steps_2l steps_2c, .int .u64 by_3] k = F5 k size_1 steps_2p steps_2l steps_2c by_3 := by kernel_rfl
theorem F5_calls {size_1 : Int} {steps_2p : Option Addr} {steps_2l : Nat} {steps_2c : Nat} {by_3 : Int} {w : World} {R : Ending → World → Prop} (h : F5 (fun v w => R (.returned v) w) size_1 steps_2p steps_2l steps_2c by_3 w) : Calls Go.Proofs.Tryd.prog 5 #[.int .u8 size_1, .slice steps_2p steps_2l steps_2c, .int .u64 by_3] w R :=
  calls_of_compF noNum follows [] (f := 5) (fn := Go.Proofs.Tryd.f5) (body := Go.Proofs.Tryd.f5.body.getD .skip) (args := [.int .u8 size_1, .slice steps_2p steps_2l steps_2c, .int .u64 by_3]) rfl rfl (Nat.le_of_ble_eq_true rfl) ((congrFun (F5_eq _ size_1 steps_2p steps_2l steps_2c by_3) w).mpr h)
theorem F5_call {size_1 : Int} {steps_2p : Option Addr} {steps_2l : Nat} {steps_2c : Nat} {by_3 : Int} {w : World} {g : Fn W (RTy.leaves (.s (.one .bool)))} (h : F5 (fun v => Back (.s (.one .bool)) g (.returned v)) size_1 steps_2p steps_2l steps_2c by_3 w) : CallT Go.Proofs.Tryd.prog 5 [.int .u8 size_1, .slice steps_2p steps_2l steps_2c, .int .u64 by_3] (.s (.one .bool)) g w := F5_calls h

end Go.Proofs.YtaacaokocamlcaaDoor.E
