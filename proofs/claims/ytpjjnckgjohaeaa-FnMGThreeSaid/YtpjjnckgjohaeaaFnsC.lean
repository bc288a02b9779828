/-
  Printed by this session's own program eng.py out of Lean's print of the loaded functions: what each function's body asks, in the engine's words; each is checked against the program by the kernel.
-/
import Derived.Test.YtpjjnckgjohaeaaEng
import Derived.Test.YtpjjnckgjohaeaaFnsA
namespace Go.Proofs.Ytpjjnckgjohaeaa.E
open Go
set_option linter.unusedVariables false
set_option maxRecDepth 100000
/-! ## slices.Clone[[]int,int] -/
def F37 (k : Value → W) (s_1p : Option Addr) (s_1l : Nat) (s_1c : Nat) : W :=
 BIf s_1p.isNone (
  k (.slice none 0 0)) (
  RawT Go.Proofs.Try.prog (Instr.buildSlice 36 0 [].toArray) (.s (.one .slice)) fun s2p s2l s2c =>
  NextT Go.Proofs.Try.prog (builtin .append #[36, 36] 36 [false, false].toArray [.slice s2p s2l s2c, .slice s_1p s_1l s_1c].toArray) (.s (.one .slice)) fun s3p s3l s3c =>
  k (.slice s3p s3l s3c))
theorem F37_eq (k : Value → W) (s_1p : Option Addr) (s_1l : Nat) (s_1c : Nat) : compF Go.Proofs.Try.prog Go.Proofs.Try.f37 [] (Go.Proofs.Try.f37.body.getD .skip) [.slice s_1p s_1l s_1c] k = F37 k s_1p s_1l s_1c := by kernel_rfl
theorem F37_calls {s_1p : Option Addr} {s_1l : Nat} {s_1c : Nat} {w : World} {R : Ending → World → Prop} (h : F37 (fun v w => R (.returned v) w) s_1p s_1l s_1c w) : Calls Go.Proofs.Try.prog 37 #[.slice s_1p s_1l s_1c] w R :=
  calls_of_compF noNum follows [] (f := 37) (fn := Go.Proofs.Try.f37) (body := Go.Proofs.Try.f37.body.getD .skip) (args := [.slice s_1p s_1l s_1c]) rfl rfl (Nat.le_of_ble_eq_true rfl) ((congrFun (F37_eq _ s_1p s_1l s_1c) w).mpr h)
theorem F37_call {s_1p : Option Addr} {s_1l : Nat} {s_1c : Nat} {w : World} {g : Fn W (RTy.leaves (.s (.one .slice)))} (h : F37 (fun v => Back (.s (.one .slice)) g (.returned v)) s_1p s_1l s_1c w) : CallT Go.Proofs.Try.prog 37 [.slice s_1p s_1l s_1c] (.s (.one .slice)) g w := F37_calls h

/-! ## laws.dxSorted -/
def F29 (k : Value → W) (l_1p : Option Addr) (l_1l : Nat) (l_1c : Nat) : W :=
 CallT Go.Proofs.Try.prog 37 [.slice l_1p l_1l l_1c] (.s (.one .slice)) fun s2p s2l s2c =>
 CallT Go.Proofs.Try.prog 38 [.slice s2p s2l s2c] (.tup []) <|
 k (.slice s2p s2l s2c)
theorem F29_eq (k : Value → W) (l_1p : Option Addr) (l_1l : Nat) (l_1c : Nat) : compF Go.Proofs.Try.prog Go.Proofs.Try.f29 [] (Go.Proofs.Try.f29.body.getD .skip) [.slice l_1p l_1l l_1c] k = F29 k l_1p l_1l l_1c := by kernel_rfl
theorem F29_calls {l_1p : Option Addr} {l_1l : Nat} {l_1c : Nat} {w : World} {R : Ending → World → Prop} (h : F29 (fun v w => R (.returned v) w) l_1p l_1l l_1c w) : Calls Go.Proofs.Try.prog 29 #[.slice l_1p l_1l l_1c] w R :=
  calls_of_compF noNum follows [] (f := 29) (fn := Go.Proofs.Try.f29) (body := Go.Proofs.Try.f29.body.getD .skip) (args := [.slice l_1p l_1l l_1c]) rfl rfl (Nat.le_of_ble_eq_true rfl) ((congrFun (F29_eq _ l_1p l_1l l_1c) w).mpr h)
theorem F29_call {l_1p : Option Addr} {l_1l : Nat} {l_1c : Nat} {w : World} {g : Fn W (RTy.leaves (.s (.one .slice)))} (h : F29 (fun v => Back (.s (.one .slice)) g (.returned v)) l_1p l_1l l_1c w) : CallT Go.Proofs.Try.prog 29 [.slice l_1p l_1l l_1c] (.s (.one .slice)) g w := F29_calls h

/-! ## laws.dsInts -/
def F30_L1 (k : Value → W) (again6 : Option Addr → Nat → Nat → Option Addr → Nat → Nat → Int → Int → W) (out_2p : Option Addr) (out_2l : Nat) (out_2c : Nat) (s3p : Option Addr) (s3l : Nat) (s3c : Nat) (x4 : Int) (x5 : Int) : W :=
 BIf (decide (x5 < x4)) (
  NN s3p fun a7 =>
  Req (0 ≤ x5 ∧ x5 < ((s3l : Nat) : Int)) <|
  LoadT (.int .i16) (a7.add x5.toNat) fun x8 =>
  RawT Go.Proofs.Try.prog (Instr.buildSlice 36 1 [(0, .int .i64 (IntKind.wrap .i64 x8))].toArray) (.s (.one .slice)) fun s9p s9l s9c =>
  NextT Go.Proofs.Try.prog (builtin .append #[36, 36] 36 [false, false].toArray [.slice out_2p out_2l out_2c, .slice s9p s9l s9c].toArray) (.s (.one .slice)) fun s10p s10l s10c =>
  again6 s10p s10l s10c s3p s3l s3c x4 (addI .i64 x5 1)) (
  k (.slice out_2p out_2l out_2c))
theorem F30_L1_rule {k : Value → W} (I : Option Addr → Nat → Nat → Option Addr → Nat → Nat → Int → Int → W) (μ : Option Addr → Nat → Nat → Option Addr → Nat → Nat → Int → Int → World → Nat)
  (hr : ∀ (out_2p : Option Addr) (out_2l : Nat) (out_2c : Nat) (s3p : Option Addr) (s3l : Nat) (s3c : Nat) (x4 : Int) (x5 : Int) (w : World), I out_2p out_2l out_2c s3p s3l s3c x4 x5 w → F30_L1 k (fun out_2p' out_2l' out_2c' s3p' s3l' s3c' x4' x5' w' => I out_2p' out_2l' out_2c' s3p' s3l' s3c' x4' x5' w' ∧ μ out_2p' out_2l' out_2c' s3p' s3l' s3c' x4' x5' w' < μ out_2p out_2l out_2c s3p s3l s3c x4 x5 w) out_2p out_2l out_2c s3p s3l s3c x4 x5 w)
  {w : World} {out_2p : Option Addr} {out_2l : Nat} {out_2c : Nat} {s3p : Option Addr} {s3l : Nat} {s3c : Nat} {x4 : Int} {x5 : Int} (h : I out_2p out_2l out_2c s3p s3l s3c x4 x5 w) : Loop [.slice, .slice, (.int .i64), (.int .i64)] (F30_L1 k) out_2p out_2l out_2c s3p s3l s3c x4 x5 w :=
  Loop_intro (ts := [.slice, .slice, (.int .i64), (.int .i64)]) (s := ((out_2p, out_2l, out_2c), (s3p, s3l, s3c), x4, x5, ())) (fun s w => I s.1.1 s.1.2.1 s.1.2.2 s.2.1.1 s.2.1.2.1 s.2.1.2.2 s.2.2.1 s.2.2.2.1 w) (fun s w => μ s.1.1 s.1.2.1 s.1.2.2 s.2.1.1 s.2.1.2.1 s.2.1.2.2 s.2.2.1 s.2.2.2.1 w) h (fun s w h => hr s.1.1 s.1.2.1 s.1.2.2 s.2.1.1 s.2.1.2.1 s.2.1.2.2 s.2.2.1 s.2.2.2.1 w h)
def F30 (k : Value → W) (l_1p : Option Addr) (l_1l : Nat) (l_1c : Nat) : W :=
 Loop [.slice, .slice, (.int .i64), (.int .i64)] (F30_L1 k) none 0 0 l_1p l_1l l_1c ((l_1l : Nat) : Int) 0
theorem F30_eq (k : Value → W) (l_1p : Option Addr) (l_1l : Nat) (l_1c : Nat) : compF Go.Proofs.Try.prog Go.Proofs.Try.f30 [(3, [(3, .slice), (6, .slice), (7, (.int .i64)), (8, (.int .i64))])] (Go.Proofs.Try.f30.body.getD .skip) [.slice l_1p l_1l l_1c] k = F30 k l_1p l_1l l_1c := by kernel_rfl
theorem F30_calls {l_1p : Option Addr} {l_1l : Nat} {l_1c : Nat} {w : World} {R : Ending → World → Prop} (h : F30 (fun v w => R (.returned v) w) l_1p l_1l l_1c w) : Calls Go.Proofs.Try.prog 30 #[.slice l_1p l_1l l_1c] w R :=
  calls_of_compF noNum follows [(3, [(3, .slice), (6, .slice), (7, (.int .i64)), (8, (.int .i64))])] (f := 30) (fn := Go.Proofs.Try.f30) (body := Go.Proofs.Try.f30.body.getD .skip) (args := [.slice l_1p l_1l l_1c]) rfl rfl (Nat.le_of_ble_eq_true rfl) ((congrFun (F30_eq _ l_1p l_1l l_1c) w).mpr h)
theorem F30_call {l_1p : Option Addr} {l_1l : Nat} {l_1c : Nat} {w : World} {g : Fn W (RTy.leaves (.s (.one .slice)))} (h : F30 (fun v => Back (.s (.one .slice)) g (.returned v)) l_1p l_1l l_1c w) : CallT Go.Proofs.Try.prog 30 [.slice l_1p l_1l l_1c] (.s (.one .slice)) g w := F30_calls h

/-! ## laws.dmItems -/
def F15_L1 (k : Value → W) (again12 : Int → Int → Option Addr → Nat → Nat → Option Addr → Nat → Nat → Int → Int → W) (tag_6 : Int) (by_7 : Int) (out_8p : Option Addr) (out_8l : Nat) (out_8c : Nat) (s9p : Option Addr) (s9l : Nat) (s9c : Nat) (x10 : Int) (x11 : Int) : W :=
 BIf (decide (x11 < x10)) (
  NN s9p fun a13 =>
  Req (0 ≤ x11 ∧ x11 < ((s9l : Nat) : Int)) <|
  LoadT (.int .i64) (a13.add x11.toNat) fun x14 =>
  RawT Go.Proofs.Try.prog (Instr.buildSlice 34 1 [(0, .agg #[.int .i64 (addI .i64 x14 by_7), .int .i64 (addI .i64 tag_6 ((out_8l : Nat) : Int))])].toArray) (.s (.one .slice)) fun s15p s15l s15c =>
  NextT Go.Proofs.Try.prog (builtin .append #[34, 34] 34 [false, false].toArray [.slice out_8p out_8l out_8c, .slice s15p s15l s15c].toArray) (.s (.one .slice)) fun s16p s16l s16c =>
  again12 tag_6 by_7 s16p s16l s16c s9p s9l s9c x10 (addI .i64 x11 1)) (
  k (.slice out_8p out_8l out_8c))
theorem F15_L1_rule {k : Value → W} (I : Int → Int → Option Addr → Nat → Nat → Option Addr → Nat → Nat → Int → Int → W) (μ : Int → Int → Option Addr → Nat → Nat → Option Addr → Nat → Nat → Int → Int → World → Nat)
  (hr : ∀ (tag_6 : Int) (by_7 : Int) (out_8p : Option Addr) (out_8l : Nat) (out_8c : Nat) (s9p : Option Addr) (s9l : Nat) (s9c : Nat) (x10 : Int) (x11 : Int) (w : World), I tag_6 by_7 out_8p out_8l out_8c s9p s9l s9c x10 x11 w → F15_L1 k (fun tag_6' by_7' out_8p' out_8l' out_8c' s9p' s9l' s9c' x10' x11' w' => I tag_6' by_7' out_8p' out_8l' out_8c' s9p' s9l' s9c' x10' x11' w' ∧ μ tag_6' by_7' out_8p' out_8l' out_8c' s9p' s9l' s9c' x10' x11' w' < μ tag_6 by_7 out_8p out_8l out_8c s9p s9l s9c x10 x11 w) tag_6 by_7 out_8p out_8l out_8c s9p s9l s9c x10 x11 w)
  {w : World} {tag_6 : Int} {by_7 : Int} {out_8p : Option Addr} {out_8l : Nat} {out_8c : Nat} {s9p : Option Addr} {s9l : Nat} {s9c : Nat} {x10 : Int} {x11 : Int} (h : I tag_6 by_7 out_8p out_8l out_8c s9p s9l s9c x10 x11 w) : Loop [(.int .i64), (.int .i64), .slice, .slice, (.int .i64), (.int .i64)] (F15_L1 k) tag_6 by_7 out_8p out_8l out_8c s9p s9l s9c x10 x11 w :=
  Loop_intro (ts := [(.int .i64), (.int .i64), .slice, .slice, (.int .i64), (.int .i64)]) (s := (tag_6, by_7, (out_8p, out_8l, out_8c), (s9p, s9l, s9c), x10, x11, ())) (fun s w => I s.1 s.2.1 s.2.2.1.1 s.2.2.1.2.1 s.2.2.1.2.2 s.2.2.2.1.1 s.2.2.2.1.2.1 s.2.2.2.1.2.2 s.2.2.2.2.1 s.2.2.2.2.2.1 w) (fun s w => μ s.1 s.2.1 s.2.2.1.1 s.2.2.1.2.1 s.2.2.1.2.2 s.2.2.2.1.1 s.2.2.2.1.2.1 s.2.2.2.1.2.2 s.2.2.2.2.1 s.2.2.2.2.2.1 w) h (fun s w h => hr s.1 s.2.1 s.2.2.1.1 s.2.2.1.2.1 s.2.2.1.2.2 s.2.2.2.1.1 s.2.2.2.1.2.1 s.2.2.2.1.2.2 s.2.2.2.2.1 s.2.2.2.2.2.1 w h)
def F15 (k : Value → W) (l_1p : Option Addr) (l_1l : Nat) (l_1c : Nat) (tag_2 : Int) (by_3 : Int) : W :=
 CallT Go.Proofs.Try.prog 30 [.slice l_1p l_1l l_1c] (.s (.one .slice)) fun s4p s4l s4c =>
 CallT Go.Proofs.Try.prog 29 [.slice s4p s4l s4c] (.s (.one .slice)) fun s5p s5l s5c =>
 Loop [(.int .i64), (.int .i64), .slice, .slice, (.int .i64), (.int .i64)] (F15_L1 k) tag_2 by_3 none 0 0 s5p s5l s5c ((s5l : Nat) : Int) 0
theorem F15_eq (k : Value → W) (l_1p : Option Addr) (l_1l : Nat) (l_1c : Nat) (tag_2 : Int) (by_3 : Int) : compF Go.Proofs.Try.prog Go.Proofs.Try.f15 [(3, [(1, (.int .i64)), (2, (.int .i64)), (7, .slice), (12, .slice), (13, (.int .i64)), (14, (.int .i64))])] (Go.Proofs.Try.f15.body.getD .skip) [.slice l_1p l_1l l_1c, .int .i64 tag_2, .int .i64 by_3] k = F15 k l_1p l_1l l_1c tag_2 by_3 := by kernel_rfl
theorem F15_calls {l_1p : Option Addr} {l_1l : Nat} {l_1c : Nat} {tag_2 : Int} {by_3 : Int} {w : World} {R : Ending → World → Prop} (h : F15 (fun v w => R (.returned v) w) l_1p l_1l l_1c tag_2 by_3 w) : Calls Go.Proofs.Try.prog 15 #[.slice l_1p l_1l l_1c, .int .i64 tag_2, .int .i64 by_3] w R :=
  calls_of_compF noNum follows [(3, [(1, (.int .i64)), (2, (.int .i64)), (7, .slice), (12, .slice), (13, (.int .i64)), (14, (.int .i64))])] (f := 15) (fn := Go.Proofs.Try.f15) (body := Go.Proofs.Try.f15.body.getD .skip) (args := [.slice l_1p l_1l l_1c, .int .i64 tag_2, .int .i64 by_3]) rfl rfl (Nat.le_of_ble_eq_true rfl) ((congrFun (F15_eq _ l_1p l_1l l_1c tag_2 by_3) w).mpr h)
theorem F15_call {l_1p : Option Addr} {l_1l : Nat} {l_1c : Nat} {tag_2 : Int} {by_3 : Int} {w : World} {g : Fn W (RTy.leaves (.s (.one .slice)))} (h : F15 (fun v => Back (.s (.one .slice)) g (.returned v)) l_1p l_1l l_1c tag_2 by_3 w) : CallT Go.Proofs.Try.prog 15 [.slice l_1p l_1l l_1c, .int .i64 tag_2, .int .i64 by_3] (.s (.one .slice)) g w := F15_calls h

/-! ## laws.dmKeys -/
def F16_L1 (k : Value → W) (again6 : Option Addr → Nat → Nat → Option Addr → Nat → Nat → Int → Int → W) (out_2p : Option Addr) (out_2l : Nat) (out_2c : Nat) (s3p : Option Addr) (s3l : Nat) (s3c : Nat) (x4 : Int) (x5 : Int) : W :=
 BIf (decide (x5 < x4)) (
  NN s3p fun a7 =>
  Req (0 ≤ x5 ∧ x5 < ((s3l : Nat) : Int)) <|
  LoadT (.int .i64) ((a7.add (x5.toNat * 2)).add 0) fun x8 =>
  LoadT (.int .i64) ((a7.add (x5.toNat * 2)).add 1) fun x9 =>
  New [.int .i64 0, .int .i64 0] 54 fun n10 =>
  Store1 ⟨n10, 0, none⟩ (.int .i64 x8) <|
  Store1 ⟨n10, 1, none⟩ (.int .i64 x9) <|
  LoadT (.int .i64) ⟨n10, 0, none⟩ fun x11 =>
  RawT Go.Proofs.Try.prog (Instr.buildSlice 36 1 [(0, .int .i64 x11)].toArray) (.s (.one .slice)) fun s12p s12l s12c =>
  NextT Go.Proofs.Try.prog (builtin .append #[36, 36] 36 [false, false].toArray [.slice out_2p out_2l out_2c, .slice s12p s12l s12c].toArray) (.s (.one .slice)) fun s13p s13l s13c =>
  again6 s13p s13l s13c s3p s3l s3c x4 (addI .i64 x5 1)) (
  k (.slice out_2p out_2l out_2c))
theorem F16_L1_rule {k : Value → W} (I : Option Addr → Nat → Nat → Option Addr → Nat → Nat → Int → Int → W) (μ : Option Addr → Nat → Nat → Option Addr → Nat → Nat → Int → Int → World → Nat)
  (hr : ∀ (out_2p : Option Addr) (out_2l : Nat) (out_2c : Nat) (s3p : Option Addr) (s3l : Nat) (s3c : Nat) (x4 : Int) (x5 : Int) (w : World), I out_2p out_2l out_2c s3p s3l s3c x4 x5 w → F16_L1 k (fun out_2p' out_2l' out_2c' s3p' s3l' s3c' x4' x5' w' => I out_2p' out_2l' out_2c' s3p' s3l' s3c' x4' x5' w' ∧ μ out_2p' out_2l' out_2c' s3p' s3l' s3c' x4' x5' w' < μ out_2p out_2l out_2c s3p s3l s3c x4 x5 w) out_2p out_2l out_2c s3p s3l s3c x4 x5 w)
  {w : World} {out_2p : Option Addr} {out_2l : Nat} {out_2c : Nat} {s3p : Option Addr} {s3l : Nat} {s3c : Nat} {x4 : Int} {x5 : Int} (h : I out_2p out_2l out_2c s3p s3l s3c x4 x5 w) : Loop [.slice, .slice, (.int .i64), (.int .i64)] (F16_L1 k) out_2p out_2l out_2c s3p s3l s3c x4 x5 w :=
  Loop_intro (ts := [.slice, .slice, (.int .i64), (.int .i64)]) (s := ((out_2p, out_2l, out_2c), (s3p, s3l, s3c), x4, x5, ())) (fun s w => I s.1.1 s.1.2.1 s.1.2.2 s.2.1.1 s.2.1.2.1 s.2.1.2.2 s.2.2.1 s.2.2.2.1 w) (fun s w => μ s.1.1 s.1.2.1 s.1.2.2 s.2.1.1 s.2.1.2.1 s.2.1.2.2 s.2.2.1 s.2.2.2.1 w) h (fun s w h => hr s.1.1 s.1.2.1 s.1.2.2 s.2.1.1 s.2.1.2.1 s.2.1.2.2 s.2.2.1 s.2.2.2.1 w h)
def F16 (k : Value → W) (l_1p : Option Addr) (l_1l : Nat) (l_1c : Nat) : W :=
 Loop [.slice, .slice, (.int .i64), (.int .i64)] (F16_L1 k) none 0 0 l_1p l_1l l_1c ((l_1l : Nat) : Int) 0
theorem F16_eq (k : Value → W) (l_1p : Option Addr) (l_1l : Nat) (l_1c : Nat) : compF Go.Proofs.Try.prog Go.Proofs.Try.f16 [(3, [(3, .slice), (6, .slice), (7, (.int .i64)), (8, (.int .i64))])] (Go.Proofs.Try.f16.body.getD .skip) [.slice l_1p l_1l l_1c] k = F16 k l_1p l_1l l_1c := by kernel_rfl
theorem F16_calls {l_1p : Option Addr} {l_1l : Nat} {l_1c : Nat} {w : World} {R : Ending → World → Prop} (h : F16 (fun v w => R (.returned v) w) l_1p l_1l l_1c w) : Calls Go.Proofs.Try.prog 16 #[.slice l_1p l_1l l_1c] w R :=
  calls_of_compF noNum follows [(3, [(3, .slice), (6, .slice), (7, (.int .i64)), (8, (.int .i64))])] (f := 16) (fn := Go.Proofs.Try.f16) (body := Go.Proofs.Try.f16.body.getD .skip) (args := [.slice l_1p l_1l l_1c]) rfl rfl (Nat.le_of_ble_eq_true rfl) ((congrFun (F16_eq _ l_1p l_1l l_1c) w).mpr h)
theorem F16_call {l_1p : Option Addr} {l_1l : Nat} {l_1c : Nat} {w : World} {g : Fn W (RTy.leaves (.s (.one .slice)))} (h : F16 (fun v => Back (.s (.one .slice)) g (.returned v)) l_1p l_1l l_1c w) : CallT Go.Proofs.Try.prog 16 [.slice l_1p l_1l l_1c] (.s (.one .slice)) g w := F16_calls h

/-! ## sort.decomposeForSymMerge -/
def F48 (k : Value → W) (length_1 : Int) (comparators_2p : Option Addr) (comparators_2l : Nat) (comparators_2c : Nat) : W :=
 BIf (decide (length_1 ≥ ((comparators_2l : Nat) : Int))) (
  bot) (
  Req (2 ≠ (0 : Int)) <|
  Bind (quoI .i64 (subI .i64 ((comparators_2l : Nat) : Int) length_1) 2 : Int) fun overhang_3 =>
  Req (0 ≤ overhang_3 ∧ overhang_3 ≤ ((comparators_2c : Nat) : Int)) <|
  Req (0 ≤ addI .i64 overhang_3 length_1 ∧ addI .i64 overhang_3 length_1 ≤ ((comparators_2c : Nat) : Int)) <|
  Req (0 ≤ overhang_3 ∧ overhang_3 ≤ (((addI .i64 overhang_3 length_1).toNat : Nat) : Int)) <|
  Req (0 ≤ addI .i64 overhang_3 length_1 ∧ addI .i64 overhang_3 length_1 ≤ ((comparators_2l : Nat) : Int)) <|
  k (.tuple #[.slice (sliceA comparators_2p 0 comparators_2c 1) (overhang_3.toNat - 0) (comparators_2c - 0), .slice (sliceA comparators_2p overhang_3.toNat comparators_2c 1) (((addI .i64 overhang_3 length_1).toNat) - overhang_3.toNat) (comparators_2c - overhang_3.toNat), .slice (sliceA comparators_2p ((addI .i64 overhang_3 length_1).toNat) comparators_2c 1) (comparators_2l - ((addI .i64 overhang_3 length_1).toNat)) (comparators_2c - ((addI .i64 overhang_3 length_1).toNat))]))
theorem F48_eq (k : Value → W) (length_1 : Int) (comparators_2p : Option Addr) (comparators_2l : Nat) (comparators_2c : Nat) : compF Go.Proofs.Try.prog Go.Proofs.Try.f48 [] (Go.Proofs.Try.f48.body.getD .skip) [.int .i64 length_1, .slice comparators_2p comparators_2l comparators_2c] k = F48 k length_1 comparators_2p comparators_2l comparators_2c := by kernel_rfl
theorem F48_calls {length_1 : Int} {comparators_2p : Option Addr} {comparators_2l : Nat} {comparators_2c : Nat} {w : World} {R : Ending → World → Prop} (h : F48 (fun v w => R (.returned v) w) length_1 comparators_2p comparators_2l comparators_2c w) : Calls Go.Proofs.Try.prog 48 #[.int .i64 length_1, .slice comparators_2p comparators_2l comparators_2c] w R :=
  calls_of_compF noNum follows [] (f := 48) (fn := Go.Proofs.Try.f48) (body := Go.Proofs.Try.f48.body.getD .skip) (args := [.int .i64 length_1, .slice comparators_2p comparators_2l comparators_2c]) rfl rfl (Nat.le_of_ble_eq_true rfl) ((congrFun (F48_eq _ length_1 comparators_2p comparators_2l comparators_2c) w).mpr h)
theorem F48_call {length_1 : Int} {comparators_2p : Option Addr} {comparators_2l : Nat} {comparators_2c : Nat} {w : World} {g : Fn W (RTy.leaves (.tup [(.one .slice), (.one .slice), (.one .slice)]))} (h : F48 (fun v => Back (.tup [(.one .slice), (.one .slice), (.one .slice)]) g (.returned v)) length_1 comparators_2p comparators_2l comparators_2c w) : CallT Go.Proofs.Try.prog 48 [.int .i64 length_1, .slice comparators_2p comparators_2l comparators_2c] (.tup [(.one .slice), (.one .slice), (.one .slice)]) g w := F48_calls h

/-! ## sort.symSearch -/
def F49_L1 (k : Value → W) (again9 : Option Addr → Nat → Nat → Option Addr → Nat → Nat → Int → Int → Int → W) (u_4p : Option Addr) (u_4l : Nat) (u_4c : Nat) (w_5p : Option Addr) (w_5l : Nat) (w_5c : Nat) (start_6 : Int) (stop_7 : Int) (p_8 : Int) : W :=
 BIf (decide (start_6 < stop_7)) (
  Req (2 ≠ (0 : Int)) <|
  Bind (quoI .i64 (addI .i64 start_6 stop_7) 2 : Int) fun mid_10 =>
  Drw <|
  NN u_4p fun a11 =>
  Req (0 ≤ mid_10 ∧ mid_10 < ((u_4l : Nat) : Int)) <|
  LoadT .any (a11.add mid_10.toNat) fun v12 =>
  NN w_5p fun a13 =>
  Req (0 ≤ subI .i64 p_8 mid_10 ∧ subI .i64 p_8 mid_10 < ((w_5l : Nat) : Int)) <|
  LoadT .any (a13.add ((subI .i64 p_8 mid_10).toNat)) fun v14 =>
  Req (nnv v12 = true) <|
  NextT Go.Proofs.Try.prog (callMethod v12 "Compare" [v14].toArray) (.s (.one (.int .i64))) fun x15 =>
  Chk1 (a11.add mid_10.toNat) v12 <|
  BIf (decide (x15 ≤ 0)) (
   again9 u_4p u_4l u_4c w_5p w_5l w_5c (addI .i64 mid_10 1) stop_7 p_8) (
   again9 u_4p u_4l u_4c w_5p w_5l w_5c start_6 mid_10 p_8)) (
  k (.int .i64 start_6))
theorem F49_L1_rule {k : Value → W} (I : Option Addr → Nat → Nat → Option Addr → Nat → Nat → Int → Int → Int → W) (μ : Option Addr → Nat → Nat → Option Addr → Nat → Nat → Int → Int → Int → World → Nat)
  (hr : ∀ (u_4p : Option Addr) (u_4l : Nat) (u_4c : Nat) (w_5p : Option Addr) (w_5l : Nat) (w_5c : Nat) (start_6 : Int) (stop_7 : Int) (p_8 : Int) (w : World), I u_4p u_4l u_4c w_5p w_5l w_5c start_6 stop_7 p_8 w → F49_L1 k (fun u_4p' u_4l' u_4c' w_5p' w_5l' w_5c' start_6' stop_7' p_8' w' => I u_4p' u_4l' u_4c' w_5p' w_5l' w_5c' start_6' stop_7' p_8' w' ∧ μ u_4p' u_4l' u_4c' w_5p' w_5l' w_5c' start_6' stop_7' p_8' w' < μ u_4p u_4l u_4c w_5p w_5l w_5c start_6 stop_7 p_8 w) u_4p u_4l u_4c w_5p w_5l w_5c start_6 stop_7 p_8 w)
  {w : World} {u_4p : Option Addr} {u_4l : Nat} {u_4c : Nat} {w_5p : Option Addr} {w_5l : Nat} {w_5c : Nat} {start_6 : Int} {stop_7 : Int} {p_8 : Int} (h : I u_4p u_4l u_4c w_5p w_5l w_5c start_6 stop_7 p_8 w) : Loop [.slice, .slice, (.int .i64), (.int .i64), (.int .i64)] (F49_L1 k) u_4p u_4l u_4c w_5p w_5l w_5c start_6 stop_7 p_8 w :=
  Loop_intro (ts := [.slice, .slice, (.int .i64), (.int .i64), (.int .i64)]) (s := ((u_4p, u_4l, u_4c), (w_5p, w_5l, w_5c), start_6, stop_7, p_8, ())) (fun s w => I s.1.1 s.1.2.1 s.1.2.2 s.2.1.1 s.2.1.2.1 s.2.1.2.2 s.2.2.1 s.2.2.2.1 s.2.2.2.2.1 w) (fun s w => μ s.1.1 s.1.2.1 s.1.2.2 s.2.1.1 s.2.1.2.1 s.2.1.2.2 s.2.2.1 s.2.2.2.1 s.2.2.2.2.1 w) h (fun s w h => hr s.1.1 s.1.2.1 s.1.2.2 s.2.1.1 s.2.1.2.1 s.2.1.2.2 s.2.2.1 s.2.2.2.1 s.2.2.2.2.1 w h)
def F49 (k : Value → W) (u_1p : Option Addr) (u_1l : Nat) (u_1c : Nat) (w_2p : Option Addr) (w_2l : Nat) (w_2c : Nat) : W :=
 Bind (subI .i64 ((w_2l : Nat) : Int) 1 : Int) fun p_3 =>
 Loop [.slice, .slice, (.int .i64), (.int .i64), (.int .i64)] (F49_L1 k) u_1p u_1l u_1c w_2p w_2l w_2c 0 ((u_1l : Nat) : Int) p_3
theorem F49_eq (k : Value → W) (u_1p : Option Addr) (u_1l : Nat) (u_1c : Nat) (w_2p : Option Addr) (w_2l : Nat) (w_2c : Nat) : compF Go.Proofs.Try.prog Go.Proofs.Try.f49 [(2, [(0, .slice), (1, .slice), (5, (.int .i64)), (6, (.int .i64)), (7, (.int .i64))])] (Go.Proofs.Try.f49.body.getD .skip) [.slice u_1p u_1l u_1c, .slice w_2p w_2l w_2c] k = F49 k u_1p u_1l u_1c w_2p w_2l w_2c := by kernel_rfl
theorem F49_calls {u_1p : Option Addr} {u_1l : Nat} {u_1c : Nat} {w_2p : Option Addr} {w_2l : Nat} {w_2c : Nat} {w : World} {R : Ending → World → Prop} (h : F49 (fun v w => R (.returned v) w) u_1p u_1l u_1c w_2p w_2l w_2c w) : Calls Go.Proofs.Try.prog 49 #[.slice u_1p u_1l u_1c, .slice w_2p w_2l w_2c] w R :=
  calls_of_compF noNum follows [(2, [(0, .slice), (1, .slice), (5, (.int .i64)), (6, (.int .i64)), (7, (.int .i64))])] (f := 49) (fn := Go.Proofs.Try.f49) (body := Go.Proofs.Try.f49.body.getD .skip) (args := [.slice u_1p u_1l u_1c, .slice w_2p w_2l w_2c]) rfl rfl (Nat.le_of_ble_eq_true rfl) ((congrFun (F49_eq _ u_1p u_1l u_1c w_2p w_2l w_2c) w).mpr h)
theorem F49_call {u_1p : Option Addr} {u_1l : Nat} {u_1c : Nat} {w_2p : Option Addr} {w_2l : Nat} {w_2c : Nat} {w : World} {g : Fn W (RTy.leaves (.s (.one (.int .i64))))} (h : F49 (fun v => Back (.s (.one (.int .i64))) g (.returned v)) u_1p u_1l u_1c w_2p w_2l w_2c w) : CallT Go.Proofs.Try.prog 49 [.slice u_1p u_1l u_1c, .slice w_2p w_2l w_2c] (.s (.one (.int .i64))) g w := F49_calls h

/-! ## sort.prepareForSymMerge -/
def F40_J1 (k : Value → W) (u_5p : Option Addr) (u_5l : Nat) (u_5c : Nat) (w_6p : Option Addr) (w_6l : Nat) (w_6c : Nat) : W :=
 CallT Go.Proofs.Try.prog 48 [.int .i64 ((u_5l : Nat) : Int), .slice w_6p w_6l w_6c] (.tup [(.one .slice), (.one .slice), (.one .slice)]) fun s7p s7l s7c s8p s8l s8c s9p s9l s9c =>
 CallT Go.Proofs.Try.prog 49 [.slice u_5p u_5l u_5c, .slice s8p s8l s8c] (.s (.one (.int .i64))) fun x10 =>
 RawT Go.Proofs.Try.prog (Instr.makeSlice 56 (.int .i64 x10) (.int .i64 x10)) (.s (.one .slice)) fun s11p s11l s11c =>
 Req (0 ≤ x10 ∧ x10 ≤ ((u_5c : Nat) : Int)) <|
 NextT Go.Proofs.Try.prog (builtin .copy #[56, 56] 3 [false, false].toArray [.slice s11p s11l s11c, .slice (sliceA u_5p 0 u_5c 1) (x10.toNat - 0) (u_5c - 0)].toArray) (.s (.one (.int .i64))) fun x12 =>
 Req (0 ≤ subI .i64 ((s8l : Nat) : Int) x10 ∧ subI .i64 ((s8l : Nat) : Int) x10 ≤ ((s8c : Nat) : Int)) <|
 NextT Go.Proofs.Try.prog (builtin .append #[56, 56] 56 [false, false].toArray [.slice s7p s7l s7c, .slice (sliceA s8p 0 s8c 1) (((subI .i64 ((s8l : Nat) : Int) x10).toNat) - 0) (s8c - 0)].toArray) (.s (.one .slice)) fun s13p s13l s13c =>
 RawT Go.Proofs.Try.prog (Instr.makeSlice 56 (.int .i64 (subI .i64 ((u_5l : Nat) : Int) x10)) (.int .i64 (subI .i64 ((u_5l : Nat) : Int) x10))) (.s (.one .slice)) fun s14p s14l s14c =>
 Req (0 ≤ x10 ∧ x10 ≤ ((u_5l : Nat) : Int)) <|
 NextT Go.Proofs.Try.prog (builtin .copy #[56, 56] 3 [false, false].toArray [.slice s14p s14l s14c, .slice (sliceA u_5p x10.toNat u_5c 1) (u_5l - x10.toNat) (u_5c - x10.toNat)].toArray) (.s (.one (.int .i64))) fun x15 =>
 Req (0 ≤ subI .i64 ((s8l : Nat) : Int) x10 ∧ subI .i64 ((s8l : Nat) : Int) x10 ≤ ((s8l : Nat) : Int)) <|
 NextT Go.Proofs.Try.prog (builtin .append #[56, 56] 56 [false, false].toArray [.slice (sliceA s8p ((subI .i64 ((s8l : Nat) : Int) x10).toNat) s8c 1) (s8l - ((subI .i64 ((s8l : Nat) : Int) x10).toNat)) (s8c - ((subI .i64 ((s8l : Nat) : Int) x10).toNat)), .slice s9p s9l s9c].toArray) (.s (.one .slice)) fun s16p s16l s16c =>
 k (.tuple #[.slice s11p s11l s11c, .slice s13p s13l s13c, .slice s14p s14l s14c, .slice s16p s16l s16c])
def F40 (k : Value → W) (u_1p : Option Addr) (u_1l : Nat) (u_1c : Nat) (w_2p : Option Addr) (w_2l : Nat) (w_2c : Nat) : W :=
 CallT Go.Proofs.Try.prog 47 [.slice u_1p u_1l u_1c] (.s (.one (.int .i64))) fun x3 =>
 CallT Go.Proofs.Try.prog 47 [.slice w_2p w_2l w_2c] (.s (.one (.int .i64))) fun x4 =>
 BIf (decide (x3 > x4)) (
  F40_J1 k w_2p w_2l w_2c u_1p u_1l u_1c) (
  F40_J1 k u_1p u_1l u_1c w_2p w_2l w_2c)
theorem F40_eq (k : Value → W) (u_1p : Option Addr) (u_1l : Nat) (u_1c : Nat) (w_2p : Option Addr) (w_2l : Nat) (w_2c : Nat) : compF Go.Proofs.Try.prog Go.Proofs.Try.f40 [] (Go.Proofs.Try.f40.body.getD .skip) [.slice u_1p u_1l u_1c, .slice w_2p w_2l w_2c] k = F40 k u_1p u_1l u_1c w_2p w_2l w_2c := by kernel_rfl
theorem F40_calls {u_1p : Option Addr} {u_1l : Nat} {u_1c : Nat} {w_2p : Option Addr} {w_2l : Nat} {w_2c : Nat} {w : World} {R : Ending → World → Prop} (h : F40 (fun v w => R (.returned v) w) u_1p u_1l u_1c w_2p w_2l w_2c w) : Calls Go.Proofs.Try.prog 40 #[.slice u_1p u_1l u_1c, .slice w_2p w_2l w_2c] w R :=
  calls_of_compF noNum follows [] (f := 40) (fn := Go.Proofs.Try.f40) (body := Go.Proofs.Try.f40.body.getD .skip) (args := [.slice u_1p u_1l u_1c, .slice w_2p w_2l w_2c]) rfl rfl (Nat.le_of_ble_eq_true rfl) ((congrFun (F40_eq _ u_1p u_1l u_1c w_2p w_2l w_2c) w).mpr h)
theorem F40_call {u_1p : Option Addr} {u_1l : Nat} {u_1c : Nat} {w_2p : Option Addr} {w_2l : Nat} {w_2c : Nat} {w : World} {g : Fn W (RTy.leaves (.tup [(.one .slice), (.one .slice), (.one .slice), (.one .slice)]))} (h : F40 (fun v => Back (.tup [(.one .slice), (.one .slice), (.one .slice), (.one .slice)]) g (.returned v)) u_1p u_1l u_1c w_2p w_2l w_2c w) : CallT Go.Proofs.Try.prog 40 [.slice u_1p u_1l u_1c, .slice w_2p w_2l w_2c] (.tup [(.one .slice), (.one .slice), (.one .slice), (.one .slice)]) g w := F40_calls h

/-! ## sort.symBinarySearch -/
def F50_L1 (k : Value → W) (again9 : Option Addr → Nat → Nat → Int → Int → Int → W) (u_5p : Option Addr) (u_5l : Nat) (u_5c : Nat) (start_6 : Int) (stop_7 : Int) (total_8 : Int) : W :=
 BIf (decide (start_6 < stop_7)) (
  Req (2 ≠ (0 : Int)) <|
  Bind (quoI .i64 (addI .i64 start_6 stop_7) 2 : Int) fun mid_10 =>
  Drw <|
  NN u_5p fun a11 =>
  Req (0 ≤ mid_10 ∧ mid_10 < ((u_5l : Nat) : Int)) <|
  LoadT .any (a11.add mid_10.toNat) fun v12 =>
  NN u_5p fun a13 =>
  Req (0 ≤ subI .i64 total_8 mid_10 ∧ subI .i64 total_8 mid_10 < ((u_5l : Nat) : Int)) <|
  LoadT .any (a13.add ((subI .i64 total_8 mid_10).toNat)) fun v14 =>
  Req (nnv v12 = true) <|
  NextT Go.Proofs.Try.prog (callMethod v12 "Compare" [v14].toArray) (.s (.one (.int .i64))) fun x15 =>
  Chk1 (a11.add mid_10.toNat) v12 <|
  BIf (decide (x15 ≤ 0)) (
   again9 u_5p u_5l u_5c (addI .i64 mid_10 1) stop_7 total_8) (
   again9 u_5p u_5l u_5c start_6 mid_10 total_8)) (
  k (.int .i64 start_6))
theorem F50_L1_rule {k : Value → W} (I : Option Addr → Nat → Nat → Int → Int → Int → W) (μ : Option Addr → Nat → Nat → Int → Int → Int → World → Nat)
  (hr : ∀ (u_5p : Option Addr) (u_5l : Nat) (u_5c : Nat) (start_6 : Int) (stop_7 : Int) (total_8 : Int) (w : World), I u_5p u_5l u_5c start_6 stop_7 total_8 w → F50_L1 k (fun u_5p' u_5l' u_5c' start_6' stop_7' total_8' w' => I u_5p' u_5l' u_5c' start_6' stop_7' total_8' w' ∧ μ u_5p' u_5l' u_5c' start_6' stop_7' total_8' w' < μ u_5p u_5l u_5c start_6 stop_7 total_8 w) u_5p u_5l u_5c start_6 stop_7 total_8 w)
  {w : World} {u_5p : Option Addr} {u_5l : Nat} {u_5c : Nat} {start_6 : Int} {stop_7 : Int} {total_8 : Int} (h : I u_5p u_5l u_5c start_6 stop_7 total_8 w) : Loop [.slice, (.int .i64), (.int .i64), (.int .i64)] (F50_L1 k) u_5p u_5l u_5c start_6 stop_7 total_8 w :=
  Loop_intro (ts := [.slice, (.int .i64), (.int .i64), (.int .i64)]) (s := ((u_5p, u_5l, u_5c), start_6, stop_7, total_8, ())) (fun s w => I s.1.1 s.1.2.1 s.1.2.2 s.2.1 s.2.2.1 s.2.2.2.1 w) (fun s w => μ s.1.1 s.1.2.1 s.1.2.2 s.2.1 s.2.2.1 s.2.2.2.1 w) h (fun s w h => hr s.1.1 s.1.2.1 s.1.2.2 s.2.1 s.2.2.1 s.2.2.2.1 w h)
def F50 (k : Value → W) (u_1p : Option Addr) (u_1l : Nat) (u_1c : Nat) (start_2 : Int) (stop_3 : Int) (total_4 : Int) : W :=
 Loop [.slice, (.int .i64), (.int .i64), (.int .i64)] (F50_L1 k) u_1p u_1l u_1c start_2 stop_3 total_4
theorem F50_eq (k : Value → W) (u_1p : Option Addr) (u_1l : Nat) (u_1c : Nat) (start_2 : Int) (stop_3 : Int) (total_4 : Int) : compF Go.Proofs.Try.prog Go.Proofs.Try.f50 [(1, [(0, .slice), (1, (.int .i64)), (2, (.int .i64)), (3, (.int .i64))])] (Go.Proofs.Try.f50.body.getD .skip) [.slice u_1p u_1l u_1c, .int .i64 start_2, .int .i64 stop_3, .int .i64 total_4] k = F50 k u_1p u_1l u_1c start_2 stop_3 total_4 := by kernel_rfl
theorem F50_calls {u_1p : Option Addr} {u_1l : Nat} {u_1c : Nat} {start_2 : Int} {stop_3 : Int} {total_4 : Int} {w : World} {R : Ending → World → Prop} (h : F50 (fun v w => R (.returned v) w) u_1p u_1l u_1c start_2 stop_3 total_4 w) : Calls Go.Proofs.Try.prog 50 #[.slice u_1p u_1l u_1c, .int .i64 start_2, .int .i64 stop_3, .int .i64 total_4] w R :=
  calls_of_compF noNum follows [(1, [(0, .slice), (1, (.int .i64)), (2, (.int .i64)), (3, (.int .i64))])] (f := 50) (fn := Go.Proofs.Try.f50) (body := Go.Proofs.Try.f50.body.getD .skip) (args := [.slice u_1p u_1l u_1c, .int .i64 start_2, .int .i64 stop_3, .int .i64 total_4]) rfl rfl (Nat.le_of_ble_eq_true rfl) ((congrFun (F50_eq _ u_1p u_1l u_1c start_2 stop_3 total_4) w).mpr h)
theorem F50_call {u_1p : Option Addr} {u_1l : Nat} {u_1c : Nat} {start_2 : Int} {stop_3 : Int} {total_4 : Int} {w : World} {g : Fn W (RTy.leaves (.s (.one (.int .i64))))} (h : F50 (fun v => Back (.s (.one (.int .i64))) g (.returned v)) u_1p u_1l u_1c start_2 stop_3 total_4 w) : CallT Go.Proofs.Try.prog 50 [.slice u_1p u_1l u_1c, .int .i64 start_2, .int .i64 stop_3, .int .i64 total_4] (.s (.one (.int .i64))) g w := F50_calls h

/-! ## sort.symSwap -/
def F71_L1 (k : Value → W) (again10 : Option Addr → Nat → Nat → Int → Int → Int → Int → W) (u_5p : Option Addr) (u_5l : Nat) (u_5c : Nat) (start1_6 : Int) (start2_7 : Int) (end_8 : Int) (i_9 : Int) : W :=
 BIf (decide (i_9 < end_8)) (
  Drw <|
  NN u_5p fun a11 =>
  Req (0 ≤ addI .i64 start2_7 i_9 ∧ addI .i64 start2_7 i_9 < ((u_5l : Nat) : Int)) <|
  LoadT .any (a11.add ((addI .i64 start2_7 i_9).toNat)) fun v12 =>
  NN u_5p fun a13 =>
  Req (0 ≤ addI .i64 start1_6 i_9 ∧ addI .i64 start1_6 i_9 < ((u_5l : Nat) : Int)) <|
  LoadT .any (a13.add ((addI .i64 start1_6 i_9).toNat)) fun v14 =>
  NN u_5p fun a15 =>
  Req (0 ≤ addI .i64 start1_6 i_9 ∧ addI .i64 start1_6 i_9 < ((u_5l : Nat) : Int)) <|
  Req (oneC v12 = true) <|
  Store1 (a15.add ((addI .i64 start1_6 i_9).toNat)) v12 <|
  NN u_5p fun a16 =>
  Req (0 ≤ addI .i64 start2_7 i_9 ∧ addI .i64 start2_7 i_9 < ((u_5l : Nat) : Int)) <|
  Req (oneC v14 = true) <|
  Store1 (a16.add ((addI .i64 start2_7 i_9).toNat)) v14 <|
  again10 u_5p u_5l u_5c start1_6 start2_7 end_8 (addI .i64 i_9 1)) (
  k (.tuple #[]))
theorem F71_L1_rule {k : Value → W} (I : Option Addr → Nat → Nat → Int → Int → Int → Int → W) (μ : Option Addr → Nat → Nat → Int → Int → Int → Int → World → Nat)
  (hr : ∀ (u_5p : Option Addr) (u_5l : Nat) (u_5c : Nat) (start1_6 : Int) (start2_7 : Int) (end_8 : Int) (i_9 : Int) (w : World), I u_5p u_5l u_5c start1_6 start2_7 end_8 i_9 w → F71_L1 k (fun u_5p' u_5l' u_5c' start1_6' start2_7' end_8' i_9' w' => I u_5p' u_5l' u_5c' start1_6' start2_7' end_8' i_9' w' ∧ μ u_5p' u_5l' u_5c' start1_6' start2_7' end_8' i_9' w' < μ u_5p u_5l u_5c start1_6 start2_7 end_8 i_9 w) u_5p u_5l u_5c start1_6 start2_7 end_8 i_9 w)
  {w : World} {u_5p : Option Addr} {u_5l : Nat} {u_5c : Nat} {start1_6 : Int} {start2_7 : Int} {end_8 : Int} {i_9 : Int} (h : I u_5p u_5l u_5c start1_6 start2_7 end_8 i_9 w) : Loop [.slice, (.int .i64), (.int .i64), (.int .i64), (.int .i64)] (F71_L1 k) u_5p u_5l u_5c start1_6 start2_7 end_8 i_9 w :=
  Loop_intro (ts := [.slice, (.int .i64), (.int .i64), (.int .i64), (.int .i64)]) (s := ((u_5p, u_5l, u_5c), start1_6, start2_7, end_8, i_9, ())) (fun s w => I s.1.1 s.1.2.1 s.1.2.2 s.2.1 s.2.2.1 s.2.2.2.1 s.2.2.2.2.1 w) (fun s w => μ s.1.1 s.1.2.1 s.1.2.2 s.2.1 s.2.2.1 s.2.2.2.1 s.2.2.2.2.1 w) h (fun s w h => hr s.1.1 s.1.2.1 s.1.2.2 s.2.1 s.2.2.1 s.2.2.2.1 s.2.2.2.2.1 w h)
def F71 (k : Value → W) (u_1p : Option Addr) (u_1l : Nat) (u_1c : Nat) (start1_2 : Int) (start2_3 : Int) (end_4 : Int) : W :=
 Loop [.slice, (.int .i64), (.int .i64), (.int .i64), (.int .i64)] (F71_L1 k) u_1p u_1l u_1c start1_2 start2_3 end_4 0
theorem F71_eq (k : Value → W) (u_1p : Option Addr) (u_1l : Nat) (u_1c : Nat) (start1_2 : Int) (start2_3 : Int) (end_4 : Int) : compF Go.Proofs.Try.prog Go.Proofs.Try.f71 [(1, [(0, .slice), (1, (.int .i64)), (2, (.int .i64)), (3, (.int .i64)), (8, (.int .i64))])] (Go.Proofs.Try.f71.body.getD .skip) [.slice u_1p u_1l u_1c, .int .i64 start1_2, .int .i64 start2_3, .int .i64 end_4] k = F71 k u_1p u_1l u_1c start1_2 start2_3 end_4 := by kernel_rfl
theorem F71_calls {u_1p : Option Addr} {u_1l : Nat} {u_1c : Nat} {start1_2 : Int} {start2_3 : Int} {end_4 : Int} {w : World} {R : Ending → World → Prop} (h : F71 (fun v w => R (.returned v) w) u_1p u_1l u_1c start1_2 start2_3 end_4 w) : Calls Go.Proofs.Try.prog 71 #[.slice u_1p u_1l u_1c, .int .i64 start1_2, .int .i64 start2_3, .int .i64 end_4] w R :=
  calls_of_compF noNum follows [(1, [(0, .slice), (1, (.int .i64)), (2, (.int .i64)), (3, (.int .i64)), (8, (.int .i64))])] (f := 71) (fn := Go.Proofs.Try.f71) (body := Go.Proofs.Try.f71.body.getD .skip) (args := [.slice u_1p u_1l u_1c, .int .i64 start1_2, .int .i64 start2_3, .int .i64 end_4]) rfl rfl (Nat.le_of_ble_eq_true rfl) ((congrFun (F71_eq _ u_1p u_1l u_1c start1_2 start2_3 end_4) w).mpr h)
theorem F71_call {u_1p : Option Addr} {u_1l : Nat} {u_1c : Nat} {start1_2 : Int} {start2_3 : Int} {end_4 : Int} {w : World} {g : Fn W (RTy.leaves (.tup []))} (h : F71 (fun v => Back (.tup []) g (.returned v)) u_1p u_1l u_1c start1_2 start2_3 end_4 w) : CallT Go.Proofs.Try.prog 71 [.slice u_1p u_1l u_1c, .int .i64 start1_2, .int .i64 start2_3, .int .i64 end_4] (.tup []) g w := F71_calls h

/-! ## sort.symRotate -/
def F51_L1 (k : Value → W) (again10 : Option Addr → Nat → Nat → Int → Int → Int → W) (u_6p : Option Addr) (u_6l : Nat) (u_6c : Nat) (i_7 : Int) (j_8 : Int) (p_9 : Int) : W :=
 BIf (i_7 != j_8) (
  BIf (decide (i_7 > j_8)) (
   CallT Go.Proofs.Try.prog 71 [.slice u_6p u_6l u_6c, .int .i64 (subI .i64 p_9 i_7), .int .i64 p_9, .int .i64 j_8] (.tup []) <|
   again10 u_6p u_6l u_6c (subI .i64 i_7 j_8) j_8 p_9) (
   CallT Go.Proofs.Try.prog 71 [.slice u_6p u_6l u_6c, .int .i64 (subI .i64 p_9 i_7), .int .i64 (subI .i64 (addI .i64 p_9 j_8) i_7), .int .i64 i_7] (.tup []) <|
   again10 u_6p u_6l u_6c i_7 (subI .i64 j_8 i_7) p_9)) (
  CallT Go.Proofs.Try.prog 71 [.slice u_6p u_6l u_6c, .int .i64 (subI .i64 p_9 i_7), .int .i64 p_9, .int .i64 i_7] (.tup []) <|
  k (.tuple #[]))
theorem F51_L1_rule {k : Value → W} (I : Option Addr → Nat → Nat → Int → Int → Int → W) (μ : Option Addr → Nat → Nat → Int → Int → Int → World → Nat)
  (hr : ∀ (u_6p : Option Addr) (u_6l : Nat) (u_6c : Nat) (i_7 : Int) (j_8 : Int) (p_9 : Int) (w : World), I u_6p u_6l u_6c i_7 j_8 p_9 w → F51_L1 k (fun u_6p' u_6l' u_6c' i_7' j_8' p_9' w' => I u_6p' u_6l' u_6c' i_7' j_8' p_9' w' ∧ μ u_6p' u_6l' u_6c' i_7' j_8' p_9' w' < μ u_6p u_6l u_6c i_7 j_8 p_9 w) u_6p u_6l u_6c i_7 j_8 p_9 w)
  {w : World} {u_6p : Option Addr} {u_6l : Nat} {u_6c : Nat} {i_7 : Int} {j_8 : Int} {p_9 : Int} (h : I u_6p u_6l u_6c i_7 j_8 p_9 w) : Loop [.slice, (.int .i64), (.int .i64), (.int .i64)] (F51_L1 k) u_6p u_6l u_6c i_7 j_8 p_9 w :=
  Loop_intro (ts := [.slice, (.int .i64), (.int .i64), (.int .i64)]) (s := ((u_6p, u_6l, u_6c), i_7, j_8, p_9, ())) (fun s w => I s.1.1 s.1.2.1 s.1.2.2 s.2.1 s.2.2.1 s.2.2.2.1 w) (fun s w => μ s.1.1 s.1.2.1 s.1.2.2 s.2.1 s.2.2.1 s.2.2.2.1 w) h (fun s w h => hr s.1.1 s.1.2.1 s.1.2.2 s.2.1 s.2.2.1 s.2.2.2.1 w h)
def F51 (k : Value → W) (u_1p : Option Addr) (u_1l : Nat) (u_1c : Nat) (start1_2 : Int) (start2_3 : Int) (end_4 : Int) : W :=
 Bind (subI .i64 start2_3 start1_2 : Int) fun i_5 =>
 BIf (i_5 == 0) (
  k (.tuple #[])) (
  BIf ((subI .i64 end_4 start2_3) == 0) (
   k (.tuple #[])) (
   BIf (i_5 == (subI .i64 end_4 start2_3)) (
    CallT Go.Proofs.Try.prog 71 [.slice u_1p u_1l u_1c, .int .i64 start1_2, .int .i64 start2_3, .int .i64 i_5] (.tup []) <|
    k (.tuple #[])) (
    Loop [.slice, (.int .i64), (.int .i64), (.int .i64)] (F51_L1 k) u_1p u_1l u_1c i_5 (subI .i64 end_4 start2_3) (addI .i64 start1_2 i_5))))
theorem F51_eq (k : Value → W) (u_1p : Option Addr) (u_1l : Nat) (u_1c : Nat) (start1_2 : Int) (start2_3 : Int) (end_4 : Int) : compF Go.Proofs.Try.prog Go.Proofs.Try.f51 [(7, [(0, .slice), (8, (.int .i64)), (9, (.int .i64)), (10, (.int .i64))])] (Go.Proofs.Try.f51.body.getD .skip) [.slice u_1p u_1l u_1c, .int .i64 start1_2, .int .i64 start2_3, .int .i64 end_4] k = F51 k u_1p u_1l u_1c start1_2 start2_3 end_4 := by kernel_rfl
theorem F51_calls {u_1p : Option Addr} {u_1l : Nat} {u_1c : Nat} {start1_2 : Int} {start2_3 : Int} {end_4 : Int} {w : World} {R : Ending → World → Prop} (h : F51 (fun v w => R (.returned v) w) u_1p u_1l u_1c start1_2 start2_3 end_4 w) : Calls Go.Proofs.Try.prog 51 #[.slice u_1p u_1l u_1c, .int .i64 start1_2, .int .i64 start2_3, .int .i64 end_4] w R :=
  calls_of_compF noNum follows [(7, [(0, .slice), (8, (.int .i64)), (9, (.int .i64)), (10, (.int .i64))])] (f := 51) (fn := Go.Proofs.Try.f51) (body := Go.Proofs.Try.f51.body.getD .skip) (args := [.slice u_1p u_1l u_1c, .int .i64 start1_2, .int .i64 start2_3, .int .i64 end_4]) rfl rfl (Nat.le_of_ble_eq_true rfl) ((congrFun (F51_eq _ u_1p u_1l u_1c start1_2 start2_3 end_4) w).mpr h)
theorem F51_call {u_1p : Option Addr} {u_1l : Nat} {u_1c : Nat} {start1_2 : Int} {start2_3 : Int} {end_4 : Int} {w : World} {g : Fn W (RTy.leaves (.tup []))} (h : F51 (fun v => Back (.tup []) g (.returned v)) u_1p u_1l u_1c start1_2 start2_3 end_4 w) : CallT Go.Proofs.Try.prog 51 [.slice u_1p u_1l u_1c, .int .i64 start1_2, .int .i64 start2_3, .int .i64 end_4] (.tup []) g w := F51_calls h

/-! ## sort.symMerge -/
def F41_J2 (k : Value → W) (u_13p : Option Addr) (u_13l : Nat) (u_13c : Nat) (start1_14 : Int) (start2_15 : Int) (last_16 : Int) (mid_17 : Int) (n_18 : Int) (start_19 : Int) : W :=
 CallT Go.Proofs.Try.prog 51 [.slice u_13p u_13l u_13c, .int .i64 start_19, .int .i64 start2_15, .int .i64 (subI .i64 n_18 start_19)] (.tup []) <|
 CallT Go.Proofs.Try.prog 41 [.slice u_13p u_13l u_13c, .int .i64 start1_14, .int .i64 start_19, .int .i64 mid_17] (.tup []) <|
 CallT Go.Proofs.Try.prog 41 [.slice u_13p u_13l u_13c, .int .i64 mid_17, .int .i64 (subI .i64 n_18 start_19), .int .i64 last_16] (.tup []) <|
 k (.tuple #[])
def F41_J1 (k : Value → W) (u_5p : Option Addr) (u_5l : Nat) (u_5c : Nat) (start1_6 : Int) (start2_7 : Int) (last_8 : Int) (b9 : Bool) : W :=
 BIf b9 (
  Req (2 ≠ (0 : Int)) <|
  Bind (quoI .i64 (addI .i64 start1_6 last_8) 2 : Int) fun mid_10 =>
  Bind (addI .i64 mid_10 start2_7 : Int) fun n_11 =>
  BIf (decide (start2_7 > mid_10)) (
   CallT Go.Proofs.Try.prog 50 [.slice u_5p u_5l u_5c, .int .i64 (subI .i64 n_11 last_8), .int .i64 mid_10, .int .i64 (subI .i64 n_11 1)] (.s (.one (.int .i64))) fun x12 =>
   F41_J2 k u_5p u_5l u_5c start1_6 start2_7 last_8 mid_10 n_11 x12) (
   CallT Go.Proofs.Try.prog 50 [.slice u_5p u_5l u_5c, .int .i64 start1_6, .int .i64 start2_7, .int .i64 (subI .i64 n_11 1)] (.s (.one (.int .i64))) fun x20 =>
   F41_J2 k u_5p u_5l u_5c start1_6 start2_7 last_8 mid_10 n_11 x20)) (
  k (.tuple #[]))
def F41 (k : Value → W) (u_1p : Option Addr) (u_1l : Nat) (u_1c : Nat) (start1_2 : Int) (start2_3 : Int) (last_4 : Int) : W :=
 BIf (decide (start1_2 < start2_3)) (
  F41_J1 k u_1p u_1l u_1c start1_2 start2_3 last_4 (decide (start2_3 < last_4))) (
  F41_J1 k u_1p u_1l u_1c start1_2 start2_3 last_4 false)
theorem F41_eq (k : Value → W) (u_1p : Option Addr) (u_1l : Nat) (u_1c : Nat) (start1_2 : Int) (start2_3 : Int) (last_4 : Int) : compF Go.Proofs.Try.prog Go.Proofs.Try.f41 [] (Go.Proofs.Try.f41.body.getD .skip) [.slice u_1p u_1l u_1c, .int .i64 start1_2, .int .i64 start2_3, .int .i64 last_4] k = F41 k u_1p u_1l u_1c start1_2 start2_3 last_4 := by kernel_rfl
theorem F41_calls {u_1p : Option Addr} {u_1l : Nat} {u_1c : Nat} {start1_2 : Int} {start2_3 : Int} {last_4 : Int} {w : World} {R : Ending → World → Prop} (h : F41 (fun v w => R (.returned v) w) u_1p u_1l u_1c start1_2 start2_3 last_4 w) : Calls Go.Proofs.Try.prog 41 #[.slice u_1p u_1l u_1c, .int .i64 start1_2, .int .i64 start2_3, .int .i64 last_4] w R :=
  calls_of_compF noNum follows [] (f := 41) (fn := Go.Proofs.Try.f41) (body := Go.Proofs.Try.f41.body.getD .skip) (args := [.slice u_1p u_1l u_1c, .int .i64 start1_2, .int .i64 start2_3, .int .i64 last_4]) rfl rfl (Nat.le_of_ble_eq_true rfl) ((congrFun (F41_eq _ u_1p u_1l u_1c start1_2 start2_3 last_4) w).mpr h)
theorem F41_call {u_1p : Option Addr} {u_1l : Nat} {u_1c : Nat} {start1_2 : Int} {start2_3 : Int} {last_4 : Int} {w : World} {g : Fn W (RTy.leaves (.tup []))} (h : F41 (fun v => Back (.tup []) g (.returned v)) u_1p u_1l u_1c start1_2 start2_3 last_4 w) : CallT Go.Proofs.Try.prog 41 [.slice u_1p u_1l u_1c, .int .i64 start1_2, .int .i64 start2_3, .int .i64 last_4] (.tup []) g w := F41_calls h

/-! ## sort.Comparators).Len -/
def F47 (k : Value → W) (c_1p : Option Addr) (c_1l : Nat) (c_1c : Nat) : W :=
 k (.int .i64 ((c_1l : Nat) : Int))
theorem F47_eq (k : Value → W) (c_1p : Option Addr) (c_1l : Nat) (c_1c : Nat) : compF Go.Proofs.Try.prog Go.Proofs.Try.f47 [] (Go.Proofs.Try.f47.body.getD .skip) [.slice c_1p c_1l c_1c] k = F47 k c_1p c_1l c_1c := by kernel_rfl
theorem F47_calls {c_1p : Option Addr} {c_1l : Nat} {c_1c : Nat} {w : World} {R : Ending → World → Prop} (h : F47 (fun v w => R (.returned v) w) c_1p c_1l c_1c w) : Calls Go.Proofs.Try.prog 47 #[.slice c_1p c_1l c_1c] w R :=
  calls_of_compF noNum follows [] (f := 47) (fn := Go.Proofs.Try.f47) (body := Go.Proofs.Try.f47.body.getD .skip) (args := [.slice c_1p c_1l c_1c]) rfl rfl (Nat.le_of_ble_eq_true rfl) ((congrFun (F47_eq _ c_1p c_1l c_1c) w).mpr h)
theorem F47_call {c_1p : Option Addr} {c_1l : Nat} {c_1c : Nat} {w : World} {g : Fn W (RTy.leaves (.s (.one (.int .i64))))} (h : F47 (fun v => Back (.s (.one (.int .i64))) g (.returned v)) c_1p c_1l c_1c w) : CallT Go.Proofs.Try.prog 47 [.slice c_1p c_1l c_1c] (.s (.one (.int .i64))) g w := F47_calls h

/-! ## math.Abs -/
def F39 (k : Value → W) (x_1 : Nat) : W :=
 NextT Go.Proofs.Try.prog (callFunc 46 [.float .f64 x_1].toArray) (.s (.one (.int .u64))) fun x2 =>
 NextT Go.Proofs.Try.prog (callFunc 45 [.int .u64 (andNotI .u64 x2 9223372036854775808)].toArray) (.s (.one (.float .f64))) fun x3 =>
 k (.float .f64 x3)
theorem F39_eq (k : Value → W) (x_1 : Nat) : compF Go.Proofs.Try.prog Go.Proofs.Try.f39 [] (Go.Proofs.Try.f39.body.getD .skip) [.float .f64 x_1] k = F39 k x_1 := by kernel_rfl
theorem F39_calls {x_1 : Nat} {w : World} {R : Ending → World → Prop} (h : F39 (fun v w => R (.returned v) w) x_1 w) : Calls Go.Proofs.Try.prog 39 #[.float .f64 x_1] w R :=
  calls_of_compF noNum follows [] (f := 39) (fn := Go.Proofs.Try.f39) (body := Go.Proofs.Try.f39.body.getD .skip) (args := [.float .f64 x_1]) rfl rfl (Nat.le_of_ble_eq_true rfl) ((congrFun (F39_eq _ x_1) w).mpr h)
theorem F39_call {x_1 : Nat} {w : World} {g : Fn W (RTy.leaves (.s (.one (.float .f64))))} (h : F39 (fun v => Back (.s (.one (.float .f64))) g (.returned v)) x_1 w) : CallT Go.Proofs.Try.prog 39 [.float .f64 x_1] (.s (.one (.float .f64))) g w := F39_calls h

/-! ## impl.mgItem).Compare -/
def F106 (k : Value → W) (x1 : Int) (x2 : Int) (other_3 : Value) : W :=
 New [.int .i64 x1, .int .i64 x2] 62 fun n4 =>
 Drw <|
 LoadT (.int .i64) ⟨n4, 0, none⟩ fun x5 =>
 TAs other_3 62 (.s (.agg [(.int .i64), (.int .i64)])) fun x6 x7 =>
 CallT Go.Proofs.Try.prog 107 [.int .i64 x5, .int .i64 x6] (.s (.one (.int .i64))) fun x8 =>
 k (.int .i64 x8)
theorem F106_eq (k : Value → W) (x1 : Int) (x2 : Int) (other_3 : Value) : compF Go.Proofs.Try.prog Go.Proofs.Try.f106 [] (Go.Proofs.Try.f106.body.getD .skip) [.agg #[.int .i64 x1, .int .i64 x2], other_3] k = F106 k x1 x2 other_3 := by kernel_rfl
theorem F106_calls {x1 : Int} {x2 : Int} {other_3 : Value} {w : World} {R : Ending → World → Prop} (h : F106 (fun v w => R (.returned v) w) x1 x2 other_3 w) : Calls Go.Proofs.Try.prog 106 #[.agg #[.int .i64 x1, .int .i64 x2], other_3] w R :=
  calls_of_compF noNum follows [] (f := 106) (fn := Go.Proofs.Try.f106) (body := Go.Proofs.Try.f106.body.getD .skip) (args := [.agg #[.int .i64 x1, .int .i64 x2], other_3]) rfl rfl (Nat.le_of_ble_eq_true rfl) ((congrFun (F106_eq _ x1 x2 other_3) w).mpr h)
theorem F106_call {x1 : Int} {x2 : Int} {other_3 : Value} {w : World} {g : Fn W (RTy.leaves (.s (.one (.int .i64))))} (h : F106 (fun v => Back (.s (.one (.int .i64))) g (.returned v)) x1 x2 other_3 w) : CallT Go.Proofs.Try.prog 106 [.agg #[.int .i64 x1, .int .i64 x2], other_3] (.s (.one (.int .i64))) g w := F106_calls h

/-! ## impl.order -/
def F107 (k : Value → W) (a_1 : Int) (b_2 : Int) : W :=
 BIf (decide (a_1 < b_2)) (
  k (.int .i64 (-1))) (
  BIf (decide (a_1 > b_2)) (
   k (.int .i64 1)) (
   k (.int .i64 0)))
theorem F107_eq (k : Value → W) (a_1 : Int) (b_2 : Int) : compF Go.Proofs.Try.prog Go.Proofs.Try.f107 [] (Go.Proofs.Try.f107.body.getD .skip) [.int .i64 a_1, .int .i64 b_2] k = F107 k a_1 b_2 := by kernel_rfl
theorem F107_calls {a_1 : Int} {b_2 : Int} {w : World} {R : Ending → World → Prop} (h : F107 (fun v w => R (.returned v) w) a_1 b_2 w) : Calls Go.Proofs.Try.prog 107 #[.int .i64 a_1, .int .i64 b_2] w R :=
  calls_of_compF noNum follows [] (f := 107) (fn := Go.Proofs.Try.f107) (body := Go.Proofs.Try.f107.body.getD .skip) (args := [.int .i64 a_1, .int .i64 b_2]) rfl rfl (Nat.le_of_ble_eq_true rfl) ((congrFun (F107_eq _ a_1 b_2) w).mpr h)
theorem F107_call {a_1 : Int} {b_2 : Int} {w : World} {g : Fn W (RTy.leaves (.s (.one (.int .i64))))} (h : F107 (fun v => Back (.s (.one (.int .i64))) g (.returned v)) a_1 b_2 w) : CallT Go.Proofs.Try.prog 107 [.int .i64 a_1, .int .i64 b_2] (.s (.one (.int .i64))) g w := F107_calls h

/-! ## laws.FnXMerged$1 -/
def F21 (k : Value → W) (a_1 : Int) (b_2 : Int) : W :=
 k (.bool (a_1 == b_2))
theorem F21_eq (k : Value → W) (a_1 : Int) (b_2 : Int) : compF Go.Proofs.Try.prog Go.Proofs.Try.f21 [] (Go.Proofs.Try.f21.body.getD .skip) [.int .i64 a_1, .int .i64 b_2] k = F21 k a_1 b_2 := by kernel_rfl
theorem F21_calls {a_1 : Int} {b_2 : Int} {w : World} {R : Ending → World → Prop} (h : F21 (fun v w => R (.returned v) w) a_1 b_2 w) : Calls Go.Proofs.Try.prog 21 #[.int .i64 a_1, .int .i64 b_2] w R :=
  calls_of_compF noNum follows [] (f := 21) (fn := Go.Proofs.Try.f21) (body := Go.Proofs.Try.f21.body.getD .skip) (args := [.int .i64 a_1, .int .i64 b_2]) rfl rfl (Nat.le_of_ble_eq_true rfl) ((congrFun (F21_eq _ a_1 b_2) w).mpr h)
theorem F21_call {a_1 : Int} {b_2 : Int} {w : World} {g : Fn W (RTy.leaves (.s (.one .bool)))} (h : F21 (fun v => Back (.s (.one .bool)) g (.returned v)) a_1 b_2 w) : CallT Go.Proofs.Try.prog 21 [.int .i64 a_1, .int .i64 b_2] (.s (.one .bool)) g w := F21_calls h

/-! ## sort.SymMerge -/
def F31 (k : Value → W) (u_1p : Option Addr) (u_1l : Nat) (u_1c : Nat) (w_2p : Option Addr) (w_2l : Nat) (w_2c : Nat) : W :=
 BIf (((u_1l : Nat) : Int) == 0) (
  k (.slice w_2p w_2l w_2c)) (
  BIf (((w_2l : Nat) : Int) == 0) (
   k (.slice u_1p u_1l u_1c)) (
   Bind (subI .i64 ((u_1l : Nat) : Int) ((w_2l : Nat) : Int) : Int) fun diff_3 =>
   RawT Go.Proofs.Try.prog (convert 3 67 (.int .i64 diff_3)) (.s (.one (.float .f64))) fun x4 =>
   CallT Go.Proofs.Try.prog 39 [.float .f64 x4] (.s (.one (.float .f64))) fun x5 =>
   RawS Go.Proofs.Try.prog (binS .gtr 67 (.tmp 29) (.const (.float .f64 4607182418800017408)) (.float .f64 x5) (.float .f64 4607182418800017408)) (.s (.one .bool)) fun b6 =>
   BIf b6 (
    CallT Go.Proofs.Try.prog 40 [.slice u_1p u_1l u_1c, .slice w_2p w_2l w_2c] (.tup [(.one .slice), (.one .slice), (.one .slice), (.one .slice)]) fun s7p s7l s7c s8p s8l s8c s9p s9l s9c s10p s10l s10c =>
    NextT Go.Proofs.Try.prog (builtin .append #[56, 56] 56 [false, false].toArray [.slice s7p s7l s7c, .slice s8p s8l s8c].toArray) (.s (.one .slice)) fun s11p s11l s11c =>
    NextT Go.Proofs.Try.prog (builtin .append #[56, 56] 56 [false, false].toArray [.slice s9p s9l s9c, .slice s10p s10l s10c].toArray) (.s (.one .slice)) fun s12p s12l s12c =>
    CallT Go.Proofs.Try.prog 41 [.slice s11p s11l s11c, .int .i64 0, .int .i64 ((s7l : Nat) : Int), .int .i64 ((s11l : Nat) : Int)] (.tup []) <|
    CallT Go.Proofs.Try.prog 41 [.slice s12p s12l s12c, .int .i64 0, .int .i64 ((s9l : Nat) : Int), .int .i64 ((s12l : Nat) : Int)] (.tup []) <|
    NextT Go.Proofs.Try.prog (builtin .append #[56, 56] 56 [false, false].toArray [.slice s11p s11l s11c, .slice s12p s12l s12c].toArray) (.s (.one .slice)) fun s13p s13l s13c =>
    k (.slice s13p s13l s13c)) (
    NextT Go.Proofs.Try.prog (builtin .append #[56, 56] 56 [false, false].toArray [.slice u_1p u_1l u_1c, .slice w_2p w_2l w_2c].toArray) (.s (.one .slice)) fun s14p s14l s14c =>
    CallT Go.Proofs.Try.prog 41 [.slice s14p s14l s14c, .int .i64 0, .int .i64 ((u_1l : Nat) : Int), .int .i64 ((s14l : Nat) : Int)] (.tup []) <|
    k (.slice s14p s14l s14c))))
theorem F31_eq (k : Value → W) (u_1p : Option Addr) (u_1l : Nat) (u_1c : Nat) (w_2p : Option Addr) (w_2l : Nat) (w_2c : Nat) : compF Go.Proofs.Try.prog Go.Proofs.Try.f31 [] (Go.Proofs.Try.f31.body.getD .skip) [.slice u_1p u_1l u_1c, .slice w_2p w_2l w_2c] k = F31 k u_1p u_1l u_1c w_2p w_2l w_2c := by kernel_rfl
theorem F31_calls {u_1p : Option Addr} {u_1l : Nat} {u_1c : Nat} {w_2p : Option Addr} {w_2l : Nat} {w_2c : Nat} {w : World} {R : Ending → World → Prop} (h : F31 (fun v w => R (.returned v) w) u_1p u_1l u_1c w_2p w_2l w_2c w) : Calls Go.Proofs.Try.prog 31 #[.slice u_1p u_1l u_1c, .slice w_2p w_2l w_2c] w R :=
  calls_of_compF noNum follows [] (f := 31) (fn := Go.Proofs.Try.f31) (body := Go.Proofs.Try.f31.body.getD .skip) (args := [.slice u_1p u_1l u_1c, .slice w_2p w_2l w_2c]) rfl rfl (Nat.le_of_ble_eq_true rfl) ((congrFun (F31_eq _ u_1p u_1l u_1c w_2p w_2l w_2c) w).mpr h)
theorem F31_call {u_1p : Option Addr} {u_1l : Nat} {u_1c : Nat} {w_2p : Option Addr} {w_2l : Nat} {w_2c : Nat} {w : World} {g : Fn W (RTy.leaves (.s (.one .slice)))} (h : F31 (fun v => Back (.s (.one .slice)) g (.returned v)) u_1p u_1l u_1c w_2p w_2l w_2c w) : CallT Go.Proofs.Try.prog 31 [.slice u_1p u_1l u_1c, .slice w_2p w_2l w_2c] (.s (.one .slice)) g w := F31_calls h

/-! ## impl.mgItems -/
def F32_L1 (k : Value → W) (again7 : Option Addr → Nat → Nat → Option Addr → Nat → Nat → Int → Int → W) (out_3p : Option Addr) (out_3l : Nat) (out_3c : Nat) (s4p : Option Addr) (s4l : Nat) (s4c : Nat) (x5 : Int) (x6 : Int) : W :=
 BIf (decide (x6 < x5)) (
  NN s4p fun a8 =>
  Req (0 ≤ x6 ∧ x6 < ((s4l : Nat) : Int)) <|
  LoadT (.int .i64) ((a8.add (x6.toNat * 2)).add 0) fun x9 =>
  LoadT (.int .i64) ((a8.add (x6.toNat * 2)).add 1) fun x10 =>
  New [.int .i64 0, .int .i64 0] 54 fun n11 =>
  Store1 ⟨n11, 0, none⟩ (.int .i64 x9) <|
  Store1 ⟨n11, 1, none⟩ (.int .i64 x10) <|
  LoadT (.int .i64) ⟨n11, 0, none⟩ fun x12 =>
  LoadT (.int .i64) ⟨n11, 1, none⟩ fun x13 =>
  RawT Go.Proofs.Try.prog (Instr.buildSlice 56 1 [(0, .iface 62 (.agg #[.int .i64 x12, .int .i64 x13]))].toArray) (.s (.one .slice)) fun s14p s14l s14c =>
  NextT Go.Proofs.Try.prog (builtin .append #[56, 56] 56 [false, false].toArray [.slice out_3p out_3l out_3c, .slice s14p s14l s14c].toArray) (.s (.one .slice)) fun s15p s15l s15c =>
  again7 s15p s15l s15c s4p s4l s4c x5 (addI .i64 x6 1)) (
  k (.slice out_3p out_3l out_3c))
theorem F32_L1_rule {k : Value → W} (I : Option Addr → Nat → Nat → Option Addr → Nat → Nat → Int → Int → W) (μ : Option Addr → Nat → Nat → Option Addr → Nat → Nat → Int → Int → World → Nat)
  (hr : ∀ (out_3p : Option Addr) (out_3l : Nat) (out_3c : Nat) (s4p : Option Addr) (s4l : Nat) (s4c : Nat) (x5 : Int) (x6 : Int) (w : World), I out_3p out_3l out_3c s4p s4l s4c x5 x6 w → F32_L1 k (fun out_3p' out_3l' out_3c' s4p' s4l' s4c' x5' x6' w' => I out_3p' out_3l' out_3c' s4p' s4l' s4c' x5' x6' w' ∧ μ out_3p' out_3l' out_3c' s4p' s4l' s4c' x5' x6' w' < μ out_3p out_3l out_3c s4p s4l s4c x5 x6 w) out_3p out_3l out_3c s4p s4l s4c x5 x6 w)
  {w : World} {out_3p : Option Addr} {out_3l : Nat} {out_3c : Nat} {s4p : Option Addr} {s4l : Nat} {s4c : Nat} {x5 : Int} {x6 : Int} (h : I out_3p out_3l out_3c s4p s4l s4c x5 x6 w) : Loop [.slice, .slice, (.int .i64), (.int .i64)] (F32_L1 k) out_3p out_3l out_3c s4p s4l s4c x5 x6 w :=
  Loop_intro (ts := [.slice, .slice, (.int .i64), (.int .i64)]) (s := ((out_3p, out_3l, out_3c), (s4p, s4l, s4c), x5, x6, ())) (fun s w => I s.1.1 s.1.2.1 s.1.2.2 s.2.1.1 s.2.1.2.1 s.2.1.2.2 s.2.2.1 s.2.2.2.1 w) (fun s w => μ s.1.1 s.1.2.1 s.1.2.2 s.2.1.1 s.2.1.2.1 s.2.1.2.2 s.2.2.1 s.2.2.2.1 w) h (fun s w h => hr s.1.1 s.1.2.1 s.1.2.2 s.2.1.1 s.2.1.2.1 s.2.1.2.2 s.2.2.1 s.2.2.2.1 w h)
def F32 (k : Value → W) (l_1p : Option Addr) (l_1l : Nat) (l_1c : Nat) : W :=
 RawT Go.Proofs.Try.prog (Instr.makeSlice 56 (.int .i64 0) (.int .i64 ((l_1l : Nat) : Int))) (.s (.one .slice)) fun s2p s2l s2c =>
 Loop [.slice, .slice, (.int .i64), (.int .i64)] (F32_L1 k) s2p s2l s2c l_1p l_1l l_1c ((l_1l : Nat) : Int) 0
theorem F32_eq (k : Value → W) (l_1p : Option Addr) (l_1l : Nat) (l_1c : Nat) : compF Go.Proofs.Try.prog Go.Proofs.Try.f32 [(3, [(3, .slice), (9, .slice), (10, (.int .i64)), (11, (.int .i64))])] (Go.Proofs.Try.f32.body.getD .skip) [.slice l_1p l_1l l_1c] k = F32 k l_1p l_1l l_1c := by kernel_rfl
theorem F32_calls {l_1p : Option Addr} {l_1l : Nat} {l_1c : Nat} {w : World} {R : Ending → World → Prop} (h : F32 (fun v w => R (.returned v) w) l_1p l_1l l_1c w) : Calls Go.Proofs.Try.prog 32 #[.slice l_1p l_1l l_1c] w R :=
  calls_of_compF noNum follows [(3, [(3, .slice), (9, .slice), (10, (.int .i64)), (11, (.int .i64))])] (f := 32) (fn := Go.Proofs.Try.f32) (body := Go.Proofs.Try.f32.body.getD .skip) (args := [.slice l_1p l_1l l_1c]) rfl rfl (Nat.le_of_ble_eq_true rfl) ((congrFun (F32_eq _ l_1p l_1l l_1c) w).mpr h)
theorem F32_call {l_1p : Option Addr} {l_1l : Nat} {l_1c : Nat} {w : World} {g : Fn W (RTy.leaves (.s (.one .slice)))} (h : F32 (fun v => Back (.s (.one .slice)) g (.returned v)) l_1p l_1l l_1c w) : CallT Go.Proofs.Try.prog 32 [.slice l_1p l_1l l_1c] (.s (.one .slice)) g w := F32_calls h

/-! ## impl.MGMerge -/
def F17_L1 (k : Value → W) (again10 : Option Addr → Nat → Nat → Option Addr → Nat → Nat → Int → Int → W) (out_6p : Option Addr) (out_6l : Nat) (out_6c : Nat) (s7p : Option Addr) (s7l : Nat) (s7c : Nat) (x8 : Int) (x9 : Int) : W :=
 BIf (decide (x9 < x8)) (
  NN s7p fun a11 =>
  Req (0 ≤ x9 ∧ x9 < ((s7l : Nat) : Int)) <|
  LoadT .any (a11.add x9.toNat) fun v12 =>
  TAs v12 62 (.s (.agg [(.int .i64), (.int .i64)])) fun x13 x14 =>
  RawT Go.Proofs.Try.prog (Instr.buildSlice 34 1 [(0, .agg #[.int .i64 x13, .int .i64 x14])].toArray) (.s (.one .slice)) fun s15p s15l s15c =>
  NextT Go.Proofs.Try.prog (builtin .append #[34, 34] 34 [false, false].toArray [.slice out_6p out_6l out_6c, .slice s15p s15l s15c].toArray) (.s (.one .slice)) fun s16p s16l s16c =>
  again10 s16p s16l s16c s7p s7l s7c x8 (addI .i64 x9 1)) (
  k (.slice out_6p out_6l out_6c))
theorem F17_L1_rule {k : Value → W} (I : Option Addr → Nat → Nat → Option Addr → Nat → Nat → Int → Int → W) (μ : Option Addr → Nat → Nat → Option Addr → Nat → Nat → Int → Int → World → Nat)
  (hr : ∀ (out_6p : Option Addr) (out_6l : Nat) (out_6c : Nat) (s7p : Option Addr) (s7l : Nat) (s7c : Nat) (x8 : Int) (x9 : Int) (w : World), I out_6p out_6l out_6c s7p s7l s7c x8 x9 w → F17_L1 k (fun out_6p' out_6l' out_6c' s7p' s7l' s7c' x8' x9' w' => I out_6p' out_6l' out_6c' s7p' s7l' s7c' x8' x9' w' ∧ μ out_6p' out_6l' out_6c' s7p' s7l' s7c' x8' x9' w' < μ out_6p out_6l out_6c s7p s7l s7c x8 x9 w) out_6p out_6l out_6c s7p s7l s7c x8 x9 w)
  {w : World} {out_6p : Option Addr} {out_6l : Nat} {out_6c : Nat} {s7p : Option Addr} {s7l : Nat} {s7c : Nat} {x8 : Int} {x9 : Int} (h : I out_6p out_6l out_6c s7p s7l s7c x8 x9 w) : Loop [.slice, .slice, (.int .i64), (.int .i64)] (F17_L1 k) out_6p out_6l out_6c s7p s7l s7c x8 x9 w :=
  Loop_intro (ts := [.slice, .slice, (.int .i64), (.int .i64)]) (s := ((out_6p, out_6l, out_6c), (s7p, s7l, s7c), x8, x9, ())) (fun s w => I s.1.1 s.1.2.1 s.1.2.2 s.2.1.1 s.2.1.2.1 s.2.1.2.2 s.2.2.1 s.2.2.2.1 w) (fun s w => μ s.1.1 s.1.2.1 s.1.2.2 s.2.1.1 s.2.1.2.1 s.2.1.2.2 s.2.2.1 s.2.2.2.1 w) h (fun s w h => hr s.1.1 s.1.2.1 s.1.2.2 s.2.1.1 s.2.1.2.1 s.2.1.2.2 s.2.2.1 s.2.2.2.1 w h)
def F17 (k : Value → W) (u_1p : Option Addr) (u_1l : Nat) (u_1c : Nat) (w_2p : Option Addr) (w_2l : Nat) (w_2c : Nat) : W :=
 CallT Go.Proofs.Try.prog 32 [.slice u_1p u_1l u_1c] (.s (.one .slice)) fun s3p s3l s3c =>
 CallT Go.Proofs.Try.prog 32 [.slice w_2p w_2l w_2c] (.s (.one .slice)) fun s4p s4l s4c =>
 CallT Go.Proofs.Try.prog 31 [.slice s3p s3l s3c, .slice s4p s4l s4c] (.s (.one .slice)) fun s5p s5l s5c =>
 Loop [.slice, .slice, (.int .i64), (.int .i64)] (F17_L1 k) none 0 0 s5p s5l s5c ((s5l : Nat) : Int) 0
theorem F17_eq (k : Value → W) (u_1p : Option Addr) (u_1l : Nat) (u_1c : Nat) (w_2p : Option Addr) (w_2l : Nat) (w_2c : Nat) : compF Go.Proofs.Try.prog Go.Proofs.Try.f17 [(3, [(5, .slice), (12, .slice), (13, (.int .i64)), (14, (.int .i64))])] (Go.Proofs.Try.f17.body.getD .skip) [.slice u_1p u_1l u_1c, .slice w_2p w_2l w_2c] k = F17 k u_1p u_1l u_1c w_2p w_2l w_2c := by kernel_rfl
theorem F17_calls {u_1p : Option Addr} {u_1l : Nat} {u_1c : Nat} {w_2p : Option Addr} {w_2l : Nat} {w_2c : Nat} {w : World} {R : Ending → World → Prop} (h : F17 (fun v w => R (.returned v) w) u_1p u_1l u_1c w_2p w_2l w_2c w) : Calls Go.Proofs.Try.prog 17 #[.slice u_1p u_1l u_1c, .slice w_2p w_2l w_2c] w R :=
  calls_of_compF noNum follows [(3, [(5, .slice), (12, .slice), (13, (.int .i64)), (14, (.int .i64))])] (f := 17) (fn := Go.Proofs.Try.f17) (body := Go.Proofs.Try.f17.body.getD .skip) (args := [.slice u_1p u_1l u_1c, .slice w_2p w_2l w_2c]) rfl rfl (Nat.le_of_ble_eq_true rfl) ((congrFun (F17_eq _ u_1p u_1l u_1c w_2p w_2l w_2c) w).mpr h)
theorem F17_call {u_1p : Option Addr} {u_1l : Nat} {u_1c : Nat} {w_2p : Option Addr} {w_2l : Nat} {w_2c : Nat} {w : World} {g : Fn W (RTy.leaves (.s (.one .slice)))} (h : F17 (fun v => Back (.s (.one .slice)) g (.returned v)) u_1p u_1l u_1c w_2p w_2l w_2c w) : CallT Go.Proofs.Try.prog 17 [.slice u_1p u_1l u_1c, .slice w_2p w_2l w_2c] (.s (.one .slice)) g w := F17_calls h

/-! ## slices.Equal[[]int,int] -/
def F19_L1 (k : Value → W) (again7 : Option Addr → Nat → Nat → Option Addr → Nat → Nat → Int → Int → W) (s1_3p : Option Addr) (s1_3l : Nat) (s1_3c : Nat) (s2_4p : Option Addr) (s2_4l : Nat) (s2_4c : Nat) (x5 : Int) (x6 : Int) : W :=
 BIf (decide (x6 < x5)) (
  Drw <|
  NN s1_3p fun a8 =>
  Req (0 ≤ x6 ∧ x6 < ((s1_3l : Nat) : Int)) <|
  LoadT (.int .i64) (a8.add x6.toNat) fun x9 =>
  NN s2_4p fun a10 =>
  Req (0 ≤ x6 ∧ x6 < ((s2_4l : Nat) : Int)) <|
  LoadT (.int .i64) (a10.add x6.toNat) fun x11 =>
  BIf (x9 != x11) (
   k (.bool false)) (
   again7 s1_3p s1_3l s1_3c s2_4p s2_4l s2_4c x5 (addI .i64 x6 1))) (
  k (.bool true))
theorem F19_L1_rule {k : Value → W} (I : Option Addr → Nat → Nat → Option Addr → Nat → Nat → Int → Int → W) (μ : Option Addr → Nat → Nat → Option Addr → Nat → Nat → Int → Int → World → Nat)
  (hr : ∀ (s1_3p : Option Addr) (s1_3l : Nat) (s1_3c : Nat) (s2_4p : Option Addr) (s2_4l : Nat) (s2_4c : Nat) (x5 : Int) (x6 : Int) (w : World), I s1_3p s1_3l s1_3c s2_4p s2_4l s2_4c x5 x6 w → F19_L1 k (fun s1_3p' s1_3l' s1_3c' s2_4p' s2_4l' s2_4c' x5' x6' w' => I s1_3p' s1_3l' s1_3c' s2_4p' s2_4l' s2_4c' x5' x6' w' ∧ μ s1_3p' s1_3l' s1_3c' s2_4p' s2_4l' s2_4c' x5' x6' w' < μ s1_3p s1_3l s1_3c s2_4p s2_4l s2_4c x5 x6 w) s1_3p s1_3l s1_3c s2_4p s2_4l s2_4c x5 x6 w)
  {w : World} {s1_3p : Option Addr} {s1_3l : Nat} {s1_3c : Nat} {s2_4p : Option Addr} {s2_4l : Nat} {s2_4c : Nat} {x5 : Int} {x6 : Int} (h : I s1_3p s1_3l s1_3c s2_4p s2_4l s2_4c x5 x6 w) : Loop [.slice, .slice, (.int .i64), (.int .i64)] (F19_L1 k) s1_3p s1_3l s1_3c s2_4p s2_4l s2_4c x5 x6 w :=
  Loop_intro (ts := [.slice, .slice, (.int .i64), (.int .i64)]) (s := ((s1_3p, s1_3l, s1_3c), (s2_4p, s2_4l, s2_4c), x5, x6, ())) (fun s w => I s.1.1 s.1.2.1 s.1.2.2 s.2.1.1 s.2.1.2.1 s.2.1.2.2 s.2.2.1 s.2.2.2.1 w) (fun s w => μ s.1.1 s.1.2.1 s.1.2.2 s.2.1.1 s.2.1.2.1 s.2.1.2.2 s.2.2.1 s.2.2.2.1 w) h (fun s w h => hr s.1.1 s.1.2.1 s.1.2.2 s.2.1.1 s.2.1.2.1 s.2.1.2.2 s.2.2.1 s.2.2.2.1 w h)
def F19 (k : Value → W) (s1_1p : Option Addr) (s1_1l : Nat) (s1_1c : Nat) (s2_2p : Option Addr) (s2_2l : Nat) (s2_2c : Nat) : W :=
 BIf (((s1_1l : Nat) : Int) != ((s2_2l : Nat) : Int)) (
  k (.bool false)) (
  Loop [.slice, .slice, (.int .i64), (.int .i64)] (F19_L1 k) s1_1p s1_1l s1_1c s2_2p s2_2l s2_2c ((s1_1l : Nat) : Int) 0)
theorem F19_eq (k : Value → W) (s1_1p : Option Addr) (s1_1l : Nat) (s1_1c : Nat) (s2_2p : Option Addr) (s2_2l : Nat) (s2_2c : Nat) : compF Go.Proofs.Try.prog Go.Proofs.Try.f19 [(4, [(0, .slice), (1, .slice), (12, (.int .i64)), (13, (.int .i64))])] (Go.Proofs.Try.f19.body.getD .skip) [.slice s1_1p s1_1l s1_1c, .slice s2_2p s2_2l s2_2c] k = F19 k s1_1p s1_1l s1_1c s2_2p s2_2l s2_2c := by kernel_rfl
theorem F19_calls {s1_1p : Option Addr} {s1_1l : Nat} {s1_1c : Nat} {s2_2p : Option Addr} {s2_2l : Nat} {s2_2c : Nat} {w : World} {R : Ending → World → Prop} (h : F19 (fun v w => R (.returned v) w) s1_1p s1_1l s1_1c s2_2p s2_2l s2_2c w) : Calls Go.Proofs.Try.prog 19 #[.slice s1_1p s1_1l s1_1c, .slice s2_2p s2_2l s2_2c] w R :=
  calls_of_compF noNum follows [(4, [(0, .slice), (1, .slice), (12, (.int .i64)), (13, (.int .i64))])] (f := 19) (fn := Go.Proofs.Try.f19) (body := Go.Proofs.Try.f19.body.getD .skip) (args := [.slice s1_1p s1_1l s1_1c, .slice s2_2p s2_2l s2_2c]) rfl rfl (Nat.le_of_ble_eq_true rfl) ((congrFun (F19_eq _ s1_1p s1_1l s1_1c s2_2p s2_2l s2_2c) w).mpr h)
theorem F19_call {s1_1p : Option Addr} {s1_1l : Nat} {s1_1c : Nat} {s2_2p : Option Addr} {s2_2l : Nat} {s2_2c : Nat} {w : World} {g : Fn W (RTy.leaves (.s (.one .bool)))} (h : F19 (fun v => Back (.s (.one .bool)) g (.returned v)) s1_1p s1_1l s1_1c s2_2p s2_2l s2_2c w) : CallT Go.Proofs.Try.prog 19 [.slice s1_1p s1_1l s1_1c, .slice s2_2p s2_2l s2_2c] (.s (.one .bool)) g w := F19_calls h

/-! ## laws.dmAwake -/
def F18 (k : Value → W) : W :=
 RawT Go.Proofs.Try.prog (Instr.buildSlice 34 1 [(0, .agg #[.int .i64 4, .int .i64 0])].toArray) (.s (.one .slice)) fun s1p s1l s1c =>
 RawT Go.Proofs.Try.prog (Instr.buildSlice 34 1 [(0, .agg #[.int .i64 2, .int .i64 1])].toArray) (.s (.one .slice)) fun s2p s2l s2c =>
 CallT Go.Proofs.Try.prog 17 [.slice s1p s1l s1c, .slice s2p s2l s2c] (.s (.one .slice)) fun s3p s3l s3c =>
 CallT Go.Proofs.Try.prog 16 [.slice s3p s3l s3c] (.s (.one .slice)) fun s4p s4l s4c =>
 RawT Go.Proofs.Try.prog (Instr.buildSlice 36 2 [(0, .int .i64 2), (1, .int .i64 4)].toArray) (.s (.one .slice)) fun s5p s5l s5c =>
 CallT Go.Proofs.Try.prog 19 [.slice s4p s4l s4c, .slice s5p s5l s5c] (.s (.one .bool)) fun b6 =>
 k (.bool b6)
theorem F18_eq (k : Value → W) : compF Go.Proofs.Try.prog Go.Proofs.Try.f18 [] (Go.Proofs.Try.f18.body.getD .skip) [] k = F18 k  := by kernel_rfl
theorem F18_calls {w : World} {R : Ending → World → Prop} (h : F18 (fun v w => R (.returned v) w)  w) : Calls Go.Proofs.Try.prog 18 #[] w R :=
  calls_of_compF noNum follows [] (f := 18) (fn := Go.Proofs.Try.f18) (body := Go.Proofs.Try.f18.body.getD .skip) (args := []) rfl rfl (Nat.le_of_ble_eq_true rfl) ((congrFun (F18_eq _ ) w).mpr h)
theorem F18_call {w : World} {g : Fn W (RTy.leaves (.s (.one .bool)))} (h : F18 (fun v => Back (.s (.one .bool)) g (.returned v))  w) : CallT Go.Proofs.Try.prog 18 [] (.s (.one .bool)) g w := F18_calls h

/-! ## laws.FnMGThree -/
def F5 (k : Value → W) (l_1p : Option Addr) (l_1l : Nat) (l_1c : Nat) (m_2p : Option Addr) (m_2l : Nat) (m_2c : Nat) (n_3p : Option Addr) (n_3l : Nat) (n_3c : Nat) : W :=
 BIf (decide (((l_1l : Nat) : Int) > 2147483647)) (
  k (.bool true)) (
  BIf (decide (((m_2l : Nat) : Int) > 2147483647)) (
   k (.bool true)) (
   BIf (decide (((n_3l : Nat) : Int) > 2147483647)) (
    k (.bool true)) (
    CallT Go.Proofs.Try.prog 7 [.slice l_1p l_1l l_1c] (.s (.one .bool)) fun b4 =>
    BIf (!b4) (
     k (.bool true)) (
     CallT Go.Proofs.Try.prog 7 [.slice m_2p m_2l m_2c] (.s (.one .bool)) fun b5 =>
     BIf (!b5) (
      k (.bool true)) (
      CallT Go.Proofs.Try.prog 7 [.slice n_3p n_3l n_3c] (.s (.one .bool)) fun b6 =>
      BIf (!b6) (
       k (.bool true)) (
       BIf (decide (((l_1l : Nat) : Int) > 20)) (
        k (.bool true)) (
        BIf (decide (((m_2l : Nat) : Int) > 20)) (
         k (.bool true)) (
         BIf (decide (((n_3l : Nat) : Int) > 20)) (
          k (.bool true)) (
          CallT Go.Proofs.Try.prog 15 [.slice l_1p l_1l l_1c, .int .i64 0, .int .i64 0] (.s (.one .slice)) fun s7p s7l s7c =>
          CallT Go.Proofs.Try.prog 15 [.slice m_2p m_2l m_2c, .int .i64 100, .int .i64 0] (.s (.one .slice)) fun s8p s8l s8c =>
          CallT Go.Proofs.Try.prog 15 [.slice n_3p n_3l n_3c, .int .i64 200, .int .i64 0] (.s (.one .slice)) fun s9p s9l s9c =>
          CallT Go.Proofs.Try.prog 17 [.slice s7p s7l s7c, .slice s8p s8l s8c] (.s (.one .slice)) fun s10p s10l s10c =>
          CallT Go.Proofs.Try.prog 17 [.slice s10p s10l s10c, .slice s9p s9l s9c] (.s (.one .slice)) fun s11p s11l s11c =>
          CallT Go.Proofs.Try.prog 16 [.slice s11p s11l s11c] (.s (.one .slice)) fun s12p s12l s12c =>
          CallT Go.Proofs.Try.prog 17 [.slice s8p s8l s8c, .slice s9p s9l s9c] (.s (.one .slice)) fun s13p s13l s13c =>
          CallT Go.Proofs.Try.prog 17 [.slice s7p s7l s7c, .slice s13p s13l s13c] (.s (.one .slice)) fun s14p s14l s14c =>
          CallT Go.Proofs.Try.prog 16 [.slice s14p s14l s14c] (.s (.one .slice)) fun s15p s15l s15c =>
          CallT Go.Proofs.Try.prog 17 [.slice s9p s9l s9c, .slice s7p s7l s7c] (.s (.one .slice)) fun s16p s16l s16c =>
          CallT Go.Proofs.Try.prog 17 [.slice s16p s16l s16c, .slice s8p s8l s8c] (.s (.one .slice)) fun s17p s17l s17c =>
          CallT Go.Proofs.Try.prog 16 [.slice s17p s17l s17c] (.s (.one .slice)) fun s18p s18l s18c =>
          CallT Go.Proofs.Try.prog 18 [] (.s (.one .bool)) fun b19 =>
          BIf b19 (
           CallT Go.Proofs.Try.prog 19 [.slice s12p s12l s12c, .slice s15p s15l s15c] (.s (.one .bool)) fun b20 =>
           BIf b20 (
            CallT Go.Proofs.Try.prog 19 [.slice s12p s12l s12c, .slice s18p s18l s18c] (.s (.one .bool)) fun b21 =>
            BIf b21 (
             Bind (((s12l : Nat) : Int) == (addI .i64 (addI .i64 ((l_1l : Nat) : Int) ((m_2l : Nat) : Int)) ((n_3l : Nat) : Int))) fun y22 =>
             k (.bool y22)) (
             k (.bool false))) (
            k (.bool false))) (
           k (.bool false)))))))))))
theorem F5_eq (k : Value → W) (l_1p : Option Addr) (l_1l : Nat) (l_1c : Nat) (m_2p : Option Addr) (m_2l : Nat) (m_2c : Nat) (n_3p : Option Addr) (n_3l : Nat) (n_3c : Nat) : compF Go.Proofs.Try.prog Go.Proofs.Try.f5 [] (Go.Proofs.Try.f5.body.getD .skip) [.slice l_1p l_1l l_1c, .slice m_2p m_2l m_2c, .slice n_3p n_3l n_3c] k = F5 k l_1p l_1l l_1c m_2p m_2l m_2c n_3p n_3l n_3c := by kernel_rfl
theorem F5_calls {l_1p : Option Addr} {l_1l : Nat} {l_1c : Nat} {m_2p : Option Addr} {m_2l : Nat} {m_2c : Nat} {n_3p : Option Addr} {n_3l : Nat} {n_3c : Nat} {w : World} {R : Ending → World → Prop} (h : F5 (fun v w => R (.returned v) w) l_1p l_1l l_1c m_2p m_2l m_2c n_3p n_3l n_3c w) : Calls Go.Proofs.Try.prog 5 #[.slice l_1p l_1l l_1c, .slice m_2p m_2l m_2c, .slice n_3p n_3l n_3c] w R :=
  calls_of_compF noNum follows [] (f := 5) (fn := Go.Proofs.Try.f5) (body := Go.Proofs.Try.f5.body.getD .skip) (args := [.slice l_1p l_1l l_1c, .slice m_2p m_2l m_2c, .slice n_3p n_3l n_3c]) rfl rfl (Nat.le_of_ble_eq_true rfl) ((congrFun (F5_eq _ l_1p l_1l l_1c m_2p m_2l m_2c n_3p n_3l n_3c) w).mpr h)
theorem F5_call {l_1p : Option Addr} {l_1l : Nat} {l_1c : Nat} {m_2p : Option Addr} {m_2l : Nat} {m_2c : Nat} {n_3p : Option Addr} {n_3l : Nat} {n_3c : Nat} {w : World} {g : Fn W (RTy.leaves (.s (.one .bool)))} (h : F5 (fun v => Back (.s (.one .bool)) g (.returned v)) l_1p l_1l l_1c m_2p m_2l m_2c n_3p n_3l n_3c w) : CallT Go.Proofs.Try.prog 5 [.slice l_1p l_1l l_1c, .slice m_2p m_2l m_2c, .slice n_3p n_3l n_3c] (.s (.one .bool)) g w := F5_calls h

/-! ## slices.EqualFunc[[]int,[]int64,int,int64] -/
def F20_L1 (k : Value → W) (again9 : Option Addr → Nat → Nat → Value → Option Addr → Nat → Nat → Int → Int → W) (s2_4p : Option Addr) (s2_4l : Nat) (s2_4c : Nat) (eq_5 : Value) (s6p : Option Addr) (s6l : Nat) (s6c : Nat) (x7 : Int) (x8 : Int) : W :=
 BIf (decide (x8 < x7)) (
  NN s6p fun a10 =>
  Req (0 ≤ x8 ∧ x8 < ((s6l : Nat) : Int)) <|
  LoadT (.int .i64) (a10.add x8.toNat) fun x11 =>
  NN s2_4p fun a12 =>
  Req (0 ≤ x8 ∧ x8 < ((s2_4l : Nat) : Int)) <|
  LoadT (.int .i64) (a12.add x8.toNat) fun x13 =>
  NextT Go.Proofs.Try.prog (callV eq_5 [.int .i64 x11, .int .i64 x13].toArray) (.s (.one .bool)) fun b14 =>
  BIf (!b14) (
   k (.bool false)) (
   again9 s2_4p s2_4l s2_4c eq_5 s6p s6l s6c x7 (addI .i64 x8 1))) (
  k (.bool true))
theorem F20_L1_rule {k : Value → W} (I : Option Addr → Nat → Nat → Value → Option Addr → Nat → Nat → Int → Int → W) (μ : Option Addr → Nat → Nat → Value → Option Addr → Nat → Nat → Int → Int → World → Nat)
  (hr : ∀ (s2_4p : Option Addr) (s2_4l : Nat) (s2_4c : Nat) (eq_5 : Value) (s6p : Option Addr) (s6l : Nat) (s6c : Nat) (x7 : Int) (x8 : Int) (w : World), I s2_4p s2_4l s2_4c eq_5 s6p s6l s6c x7 x8 w → F20_L1 k (fun s2_4p' s2_4l' s2_4c' eq_5' s6p' s6l' s6c' x7' x8' w' => I s2_4p' s2_4l' s2_4c' eq_5' s6p' s6l' s6c' x7' x8' w' ∧ μ s2_4p' s2_4l' s2_4c' eq_5' s6p' s6l' s6c' x7' x8' w' < μ s2_4p s2_4l s2_4c eq_5 s6p s6l s6c x7 x8 w) s2_4p s2_4l s2_4c eq_5 s6p s6l s6c x7 x8 w)
  {w : World} {s2_4p : Option Addr} {s2_4l : Nat} {s2_4c : Nat} {eq_5 : Value} {s6p : Option Addr} {s6l : Nat} {s6c : Nat} {x7 : Int} {x8 : Int} (h : I s2_4p s2_4l s2_4c eq_5 s6p s6l s6c x7 x8 w) : Loop [.slice, .any, .slice, (.int .i64), (.int .i64)] (F20_L1 k) s2_4p s2_4l s2_4c eq_5 s6p s6l s6c x7 x8 w :=
  Loop_intro (ts := [.slice, .any, .slice, (.int .i64), (.int .i64)]) (s := ((s2_4p, s2_4l, s2_4c), eq_5, (s6p, s6l, s6c), x7, x8, ())) (fun s w => I s.1.1 s.1.2.1 s.1.2.2 s.2.1 s.2.2.1.1 s.2.2.1.2.1 s.2.2.1.2.2 s.2.2.2.1 s.2.2.2.2.1 w) (fun s w => μ s.1.1 s.1.2.1 s.1.2.2 s.2.1 s.2.2.1.1 s.2.2.1.2.1 s.2.2.1.2.2 s.2.2.2.1 s.2.2.2.2.1 w) h (fun s w h => hr s.1.1 s.1.2.1 s.1.2.2 s.2.1 s.2.2.1.1 s.2.2.1.2.1 s.2.2.1.2.2 s.2.2.2.1 s.2.2.2.2.1 w h)
def F20 (k : Value → W) (s1_1p : Option Addr) (s1_1l : Nat) (s1_1c : Nat) (s2_2p : Option Addr) (s2_2l : Nat) (s2_2c : Nat) (eq_3 : Value) : W :=
 BIf (((s1_1l : Nat) : Int) != ((s2_2l : Nat) : Int)) (
  k (.bool false)) (
  Loop [.slice, .any, .slice, (.int .i64), (.int .i64)] (F20_L1 k) s2_2p s2_2l s2_2c eq_3 s1_1p s1_1l s1_1c ((s1_1l : Nat) : Int) 0)
theorem F20_eq (k : Value → W) (s1_1p : Option Addr) (s1_1l : Nat) (s1_1c : Nat) (s2_2p : Option Addr) (s2_2l : Nat) (s2_2c : Nat) (eq_3 : Value) : compF Go.Proofs.Try.prog Go.Proofs.Try.f20 [(4, [(1, .slice), (2, .any), (15, .slice), (16, (.int .i64)), (17, (.int .i64))])] (Go.Proofs.Try.f20.body.getD .skip) [.slice s1_1p s1_1l s1_1c, .slice s2_2p s2_2l s2_2c, eq_3] k = F20 k s1_1p s1_1l s1_1c s2_2p s2_2l s2_2c eq_3 := by kernel_rfl
theorem F20_calls {s1_1p : Option Addr} {s1_1l : Nat} {s1_1c : Nat} {s2_2p : Option Addr} {s2_2l : Nat} {s2_2c : Nat} {eq_3 : Value} {w : World} {R : Ending → World → Prop} (h : F20 (fun v w => R (.returned v) w) s1_1p s1_1l s1_1c s2_2p s2_2l s2_2c eq_3 w) : Calls Go.Proofs.Try.prog 20 #[.slice s1_1p s1_1l s1_1c, .slice s2_2p s2_2l s2_2c, eq_3] w R :=
  calls_of_compF noNum follows [(4, [(1, .slice), (2, .any), (15, .slice), (16, (.int .i64)), (17, (.int .i64))])] (f := 20) (fn := Go.Proofs.Try.f20) (body := Go.Proofs.Try.f20.body.getD .skip) (args := [.slice s1_1p s1_1l s1_1c, .slice s2_2p s2_2l s2_2c, eq_3]) rfl rfl (Nat.le_of_ble_eq_true rfl) ((congrFun (F20_eq _ s1_1p s1_1l s1_1c s2_2p s2_2l s2_2c eq_3) w).mpr h)
theorem F20_call {s1_1p : Option Addr} {s1_1l : Nat} {s1_1c : Nat} {s2_2p : Option Addr} {s2_2l : Nat} {s2_2c : Nat} {eq_3 : Value} {w : World} {g : Fn W (RTy.leaves (.s (.one .bool)))} (h : F20 (fun v => Back (.s (.one .bool)) g (.returned v)) s1_1p s1_1l s1_1c s2_2p s2_2l s2_2c eq_3 w) : CallT Go.Proofs.Try.prog 20 [.slice s1_1p s1_1l s1_1c, .slice s2_2p s2_2l s2_2c, eq_3] (.s (.one .bool)) g w := F20_calls h

/-! ## laws.FnXMerged -/
def F6 (k : Value → W) (l_1p : Option Addr) (l_1l : Nat) (l_1c : Nat) (m_2p : Option Addr) (m_2l : Nat) (m_2c : Nat) : W :=
 BIf (decide (((l_1l : Nat) : Int) > 2147483647)) (
  k (.bool true)) (
  BIf (decide (((m_2l : Nat) : Int) > 2147483647)) (
   k (.bool true)) (
   CallT Go.Proofs.Try.prog 7 [.slice l_1p l_1l l_1c] (.s (.one .bool)) fun b3 =>
   BIf (!b3) (
    k (.bool true)) (
    CallT Go.Proofs.Try.prog 7 [.slice m_2p m_2l m_2c] (.s (.one .bool)) fun b4 =>
    BIf (!b4) (
     k (.bool true)) (
     CallT Go.Proofs.Try.prog 9 [.slice l_1p l_1l l_1c, .int .i64 0] (.s (.one .slice)) fun s5p s5l s5c =>
     CallT Go.Proofs.Try.prog 9 [.slice m_2p m_2l m_2c, .int .i64 0] (.s (.one .slice)) fun s6p s6l s6c =>
     NextT Go.Proofs.Try.prog (builtin .append #[25, 25] 25 [false, false].toArray [.slice s5p s5l s5c, .slice s6p s6l s6c].toArray) (.s (.one .slice)) fun s7p s7l s7c =>
     CallT Go.Proofs.Try.prog 8 [.slice s7p s7l s7c] (.s (.one .slice)) fun s8p s8l s8c =>
     CallT Go.Proofs.Try.prog 15 [.slice l_1p l_1l l_1c, .int .i64 0, .int .i64 0] (.s (.one .slice)) fun s9p s9l s9c =>
     CallT Go.Proofs.Try.prog 15 [.slice m_2p m_2l m_2c, .int .i64 100, .int .i64 0] (.s (.one .slice)) fun s10p s10l s10c =>
     CallT Go.Proofs.Try.prog 17 [.slice s9p s9l s9c, .slice s10p s10l s10c] (.s (.one .slice)) fun s11p s11l s11c =>
     CallT Go.Proofs.Try.prog 16 [.slice s11p s11l s11c] (.s (.one .slice)) fun s12p s12l s12c =>
     BIf (((s8l : Nat) : Int) == (addI .i64 ((l_1l : Nat) : Int) ((m_2l : Nat) : Int))) (
      CallT Go.Proofs.Try.prog 20 [.slice s12p s12l s12c, .slice s8p s8l s8c, .func (.func 21) #[] #[]] (.s (.one .bool)) fun b13 =>
      k (.bool b13)) (
      k (.bool false))))))
theorem F6_eq (k : Value → W) (l_1p : Option Addr) (l_1l : Nat) (l_1c : Nat) (m_2p : Option Addr) (m_2l : Nat) (m_2c : Nat) : compF Go.Proofs.Try.prog Go.Proofs.Try.f6 [] (Go.Proofs.Try.f6.body.getD .skip) [.slice l_1p l_1l l_1c, .slice m_2p m_2l m_2c] k = F6 k l_1p l_1l l_1c m_2p m_2l m_2c := by kernel_rfl
theorem F6_calls {l_1p : Option Addr} {l_1l : Nat} {l_1c : Nat} {m_2p : Option Addr} {m_2l : Nat} {m_2c : Nat} {w : World} {R : Ending → World → Prop} (h : F6 (fun v w => R (.returned v) w) l_1p l_1l l_1c m_2p m_2l m_2c w) : Calls Go.Proofs.Try.prog 6 #[.slice l_1p l_1l l_1c, .slice m_2p m_2l m_2c] w R :=
  calls_of_compF noNum follows [] (f := 6) (fn := Go.Proofs.Try.f6) (body := Go.Proofs.Try.f6.body.getD .skip) (args := [.slice l_1p l_1l l_1c, .slice m_2p m_2l m_2c]) rfl rfl (Nat.le_of_ble_eq_true rfl) ((congrFun (F6_eq _ l_1p l_1l l_1c m_2p m_2l m_2c) w).mpr h)
theorem F6_call {l_1p : Option Addr} {l_1l : Nat} {l_1c : Nat} {m_2p : Option Addr} {m_2l : Nat} {m_2c : Nat} {w : World} {g : Fn W (RTy.leaves (.s (.one .bool)))} (h : F6 (fun v => Back (.s (.one .bool)) g (.returned v)) l_1p l_1l l_1c m_2p m_2l m_2c w) : CallT Go.Proofs.Try.prog 6 [.slice l_1p l_1l l_1c, .slice m_2p m_2l m_2c] (.s (.one .bool)) g w := F6_calls h

end Go.Proofs.Ytpjjnckgjohaeaa.E
