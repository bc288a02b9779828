/-
  Printed by this session's own program eng.py out of Lean's print of the loaded functions: what each function's body asks, in the engine's words; each is checked against the program by the kernel.
-/
import Derived.Test.YtokejbejoegnnaaEng
import Derived.Test.YtokejbejoegnnaaFnsA
namespace Go.Proofs.Ytokejbejoegnnaa.E
open Go
set_option linter.unusedVariables false
set_option maxRecDepth 100000
/-! ## impl.order -/
def F99 (k : Value → W) (a_1 : Int) (b_2 : Int) : W :=
 BIf (decide (a_1 < b_2)) (
  k (.int .i64 (-1))) (
  BIf (decide (a_1 > b_2)) (
   k (.int .i64 1)) (
   k (.int .i64 0)))
theorem F99_eq (k : Value → W) (a_1 : Int) (b_2 : Int) : compF Go.Proofs.Try.prog Go.Proofs.Try.f99 [] (Go.Proofs.Try.f99.body.getD .skip) [.int .i64 a_1, .int .i64 b_2] k = F99 k a_1 b_2 := by kernel_rfl
theorem F99_calls {a_1 : Int} {b_2 : Int} {w : World} {R : Ending → World → Prop} (h : F99 (fun v w => R (.returned v) w) a_1 b_2 w) : Calls Go.Proofs.Try.prog 99 #[.int .i64 a_1, .int .i64 b_2] w R :=
  calls_of_compF noNum follows [] (f := 99) (fn := Go.Proofs.Try.f99) (body := Go.Proofs.Try.f99.body.getD .skip) (args := [.int .i64 a_1, .int .i64 b_2]) rfl rfl (Nat.le_of_ble_eq_true rfl) ((congrFun (F99_eq _ a_1 b_2) w).mpr h)
theorem F99_call {a_1 : Int} {b_2 : Int} {w : World} {g : Fn W (RTy.leaves (.s (.one (.int .i64))))} (h : F99 (fun v => Back (.s (.one (.int .i64))) g (.returned v)) a_1 b_2 w) : CallT Go.Proofs.Try.prog 99 [.int .i64 a_1, .int .i64 b_2] (.s (.one (.int .i64))) g w := F99_calls h

/-! ## impl.avEntry).Compare -/
def F98 (k : Value → W) (x1 : Int) (x2 : Int) (other_3 : Value) : W :=
 New [.int .i64 x1, .int .i64 x2] 95 fun n4 =>
 Drw <|
 LoadT (.int .i64) ⟨n4, 0, none⟩ fun x5 =>
 TAs other_3 95 (.s (.agg [(.int .i64), (.int .i64)])) fun x6 x7 =>
 CallT Go.Proofs.Try.prog 99 [.int .i64 x5, .int .i64 x6] (.s (.one (.int .i64))) fun x8 =>
 k (.int .i64 x8)
theorem F98_eq (k : Value → W) (x1 : Int) (x2 : Int) (other_3 : Value) : compF Go.Proofs.Try.prog Go.Proofs.Try.f98 [] (Go.Proofs.Try.f98.body.getD .skip) [.agg #[.int .i64 x1, .int .i64 x2], other_3] k = F98 k x1 x2 other_3 := by kernel_rfl
theorem F98_calls {x1 : Int} {x2 : Int} {other_3 : Value} {w : World} {R : Ending → World → Prop} (h : F98 (fun v w => R (.returned v) w) x1 x2 other_3 w) : Calls Go.Proofs.Try.prog 98 #[.agg #[.int .i64 x1, .int .i64 x2], other_3] w R :=
  calls_of_compF noNum follows [] (f := 98) (fn := Go.Proofs.Try.f98) (body := Go.Proofs.Try.f98.body.getD .skip) (args := [.agg #[.int .i64 x1, .int .i64 x2], other_3]) rfl rfl (Nat.le_of_ble_eq_true rfl) ((congrFun (F98_eq _ x1 x2 other_3) w).mpr h)
theorem F98_call {x1 : Int} {x2 : Int} {other_3 : Value} {w : World} {g : Fn W (RTy.leaves (.s (.one (.int .i64))))} (h : F98 (fun v => Back (.s (.one (.int .i64))) g (.returned v)) x1 x2 other_3 w) : CallT Go.Proofs.Try.prog 98 [.agg #[.int .i64 x1, .int .i64 x2], other_3] (.s (.one (.int .i64))) g w := F98_calls h

/-! ## laws.dvEntries$1 -/
def F23 (k : Value → W) (x1 : Int) (x2 : Int) (a3 : Addr) : W :=
 New [.int .i64 x1, .int .i64 x2] 40 fun n4 =>
 LoadT (.int .i64) ⟨n4, 0, none⟩ fun x5 =>
 LoadT (.int .i16) a3 fun x6 =>
 Bind (x5 == (IntKind.wrap .i64 x6)) fun y7 =>
 k (.bool y7)
theorem F23_eq (k : Value → W) (x1 : Int) (x2 : Int) (a3 : Addr) : compF Go.Proofs.Try.prog Go.Proofs.Try.f23 [] (Go.Proofs.Try.f23.body.getD .skip) [.agg #[.int .i64 x1, .int .i64 x2], .pointer (some a3)] k = F23 k x1 x2 a3 := by kernel_rfl
theorem F23_calls {x1 : Int} {x2 : Int} {a3 : Addr} {w : World} {R : Ending → World → Prop} (h : F23 (fun v w => R (.returned v) w) x1 x2 a3 w) : Calls Go.Proofs.Try.prog 23 #[.agg #[.int .i64 x1, .int .i64 x2], .pointer (some a3)] w R :=
  calls_of_compF noNum follows [] (f := 23) (fn := Go.Proofs.Try.f23) (body := Go.Proofs.Try.f23.body.getD .skip) (args := [.agg #[.int .i64 x1, .int .i64 x2], .pointer (some a3)]) rfl rfl (Nat.le_of_ble_eq_true rfl) ((congrFun (F23_eq _ x1 x2 a3) w).mpr h)
theorem F23_call {x1 : Int} {x2 : Int} {a3 : Addr} {w : World} {g : Fn W (RTy.leaves (.s (.one .bool)))} (h : F23 (fun v => Back (.s (.one .bool)) g (.returned v)) x1 x2 a3 w) : CallT Go.Proofs.Try.prog 23 [.agg #[.int .i64 x1, .int .i64 x2], .pointer (some a3)] (.s (.one .bool)) g w := F23_calls h

/-! ## impl.AVEntry] -/
def F41_L1 (k : Value → W) (again7 : Option Addr → Nat → Nat → Value → Int → Int → W) (s_3p : Option Addr) (s_3l : Nat) (s_3c : Nat) (f_4 : Value) (x5 : Int) (x6 : Int) : W :=
 BIf (decide (x6 < x5)) (
  NN s_3p fun a8 =>
  Req (0 ≤ x6 ∧ x6 < ((s_3l : Nat) : Int)) <|
  LoadT (.int .i64) ((a8.add (x6.toNat * 2)).add 0) fun x9 =>
  LoadT (.int .i64) ((a8.add (x6.toNat * 2)).add 1) fun x10 =>
  NextT Go.Proofs.Try.prog (callV f_4 [.agg #[.int .i64 x9, .int .i64 x10]].toArray) (.s (.one .bool)) fun b11 =>
  BIf b11 (
   k (.int .i64 x6)) (
   again7 s_3p s_3l s_3c f_4 x5 (addI .i64 x6 1))) (
  k (.int .i64 (-1)))
theorem F41_L1_rule {k : Value → W} (I : Option Addr → Nat → Nat → Value → Int → Int → W) (μ : Option Addr → Nat → Nat → Value → Int → Int → World → Nat)
  (hr : ∀ (s_3p : Option Addr) (s_3l : Nat) (s_3c : Nat) (f_4 : Value) (x5 : Int) (x6 : Int) (w : World), I s_3p s_3l s_3c f_4 x5 x6 w → F41_L1 k (fun s_3p' s_3l' s_3c' f_4' x5' x6' w' => I s_3p' s_3l' s_3c' f_4' x5' x6' w' ∧ μ s_3p' s_3l' s_3c' f_4' x5' x6' w' < μ s_3p s_3l s_3c f_4 x5 x6 w) s_3p s_3l s_3c f_4 x5 x6 w)
  {w : World} {s_3p : Option Addr} {s_3l : Nat} {s_3c : Nat} {f_4 : Value} {x5 : Int} {x6 : Int} (h : I s_3p s_3l s_3c f_4 x5 x6 w) : Loop [.slice, .any, (.int .i64), (.int .i64)] (F41_L1 k) s_3p s_3l s_3c f_4 x5 x6 w :=
  Loop_intro (ts := [.slice, .any, (.int .i64), (.int .i64)]) (s := ((s_3p, s_3l, s_3c), f_4, x5, x6, ())) (fun s w => I s.1.1 s.1.2.1 s.1.2.2 s.2.1 s.2.2.1 s.2.2.2.1 w) (fun s w => μ s.1.1 s.1.2.1 s.1.2.2 s.2.1 s.2.2.1 s.2.2.2.1 w) h (fun s w h => hr s.1.1 s.1.2.1 s.1.2.2 s.2.1 s.2.2.1 s.2.2.2.1 w h)
def F41 (k : Value → W) (s_1p : Option Addr) (s_1l : Nat) (s_1c : Nat) (f_2 : Value) : W :=
 Loop [.slice, .any, (.int .i64), (.int .i64)] (F41_L1 k) s_1p s_1l s_1c f_2 ((s_1l : Nat) : Int) 0
theorem F41_eq (k : Value → W) (s_1p : Option Addr) (s_1l : Nat) (s_1c : Nat) (f_2 : Value) : compF Go.Proofs.Try.prog Go.Proofs.Try.f41 [(2, [(0, .slice), (1, .any), (7, (.int .i64)), (8, (.int .i64))])] (Go.Proofs.Try.f41.body.getD .skip) [.slice s_1p s_1l s_1c, f_2] k = F41 k s_1p s_1l s_1c f_2 := by kernel_rfl
theorem F41_calls {s_1p : Option Addr} {s_1l : Nat} {s_1c : Nat} {f_2 : Value} {w : World} {R : Ending → World → Prop} (h : F41 (fun v w => R (.returned v) w) s_1p s_1l s_1c f_2 w) : Calls Go.Proofs.Try.prog 41 #[.slice s_1p s_1l s_1c, f_2] w R :=
  calls_of_compF noNum follows [(2, [(0, .slice), (1, .any), (7, (.int .i64)), (8, (.int .i64))])] (f := 41) (fn := Go.Proofs.Try.f41) (body := Go.Proofs.Try.f41.body.getD .skip) (args := [.slice s_1p s_1l s_1c, f_2]) rfl rfl (Nat.le_of_ble_eq_true rfl) ((congrFun (F41_eq _ s_1p s_1l s_1c f_2) w).mpr h)
theorem F41_call {s_1p : Option Addr} {s_1l : Nat} {s_1c : Nat} {f_2 : Value} {w : World} {g : Fn W (RTy.leaves (.s (.one (.int .i64))))} (h : F41 (fun v => Back (.s (.one (.int .i64))) g (.returned v)) s_1p s_1l s_1c f_2 w) : CallT Go.Proofs.Try.prog 41 [.slice s_1p s_1l s_1c, f_2] (.s (.one (.int .i64))) g w := F41_calls h

/-! ## impl.AVEntry] -/
def F22 (k : Value → W) (s_1p : Option Addr) (s_1l : Nat) (s_1c : Nat) (f_2 : Value) : W :=
 CallT Go.Proofs.Try.prog 41 [.slice s_1p s_1l s_1c, f_2] (.s (.one (.int .i64))) fun x3 =>
 k (.bool (decide (x3 ≥ 0)))
theorem F22_eq (k : Value → W) (s_1p : Option Addr) (s_1l : Nat) (s_1c : Nat) (f_2 : Value) : compF Go.Proofs.Try.prog Go.Proofs.Try.f22 [] (Go.Proofs.Try.f22.body.getD .skip) [.slice s_1p s_1l s_1c, f_2] k = F22 k s_1p s_1l s_1c f_2 := by kernel_rfl
theorem F22_calls {s_1p : Option Addr} {s_1l : Nat} {s_1c : Nat} {f_2 : Value} {w : World} {R : Ending → World → Prop} (h : F22 (fun v w => R (.returned v) w) s_1p s_1l s_1c f_2 w) : Calls Go.Proofs.Try.prog 22 #[.slice s_1p s_1l s_1c, f_2] w R :=
  calls_of_compF noNum follows [] (f := 22) (fn := Go.Proofs.Try.f22) (body := Go.Proofs.Try.f22.body.getD .skip) (args := [.slice s_1p s_1l s_1c, f_2]) rfl rfl (Nat.le_of_ble_eq_true rfl) ((congrFun (F22_eq _ s_1p s_1l s_1c f_2) w).mpr h)
theorem F22_call {s_1p : Option Addr} {s_1l : Nat} {s_1c : Nat} {f_2 : Value} {w : World} {g : Fn W (RTy.leaves (.s (.one .bool)))} (h : F22 (fun v => Back (.s (.one .bool)) g (.returned v)) s_1p s_1l s_1c f_2 w) : CallT Go.Proofs.Try.prog 22 [.slice s_1p s_1l s_1c, f_2] (.s (.one .bool)) g w := F22_calls h

/-! ## laws.dvEntries -/
def F12_L1 (k : Value → W) (again8 : Int → Option Addr → Nat → Nat → Option Addr → Nat → Nat → Int → Int → W) (more_3 : Int) (out_4p : Option Addr) (out_4l : Nat) (out_4c : Nat) (s5p : Option Addr) (s5l : Nat) (s5c : Nat) (x6 : Int) (x7 : Int) : W :=
 BIf (decide (x7 < x6)) (
  NN s5p fun a9 =>
  Req (0 ≤ x7 ∧ x7 < ((s5l : Nat) : Int)) <|
  LoadT (.int .i16) (a9.add x7.toNat) fun x10 =>
  New [.int .i16 0] 59 fun n11 =>
  Store1 ⟨n11, 0, none⟩ (.int .i16 x10) <|
  CallT Go.Proofs.Try.prog 22 [.slice out_4p out_4l out_4c, .func (.func 23) #[] #[.pointer (some ⟨n11, 0, none⟩)]] (.s (.one .bool)) fun b12 =>
  BIf (!b12) (
   LoadT (.int .i16) ⟨n11, 0, none⟩ fun x13 =>
   RawT Go.Proofs.Try.prog (Instr.buildSlice 37 1 [(0, .agg #[.int .i64 (IntKind.wrap .i64 x13), .int .i64 (addI .i64 (addI .i64 ((out_4l : Nat) : Int) 1) more_3)])].toArray) (.s (.one .slice)) fun s14p s14l s14c =>
   NextT Go.Proofs.Try.prog (builtin .append #[37, 37] 37 [false, false].toArray [.slice out_4p out_4l out_4c, .slice s14p s14l s14c].toArray) (.s (.one .slice)) fun s15p s15l s15c =>
   again8 more_3 s15p s15l s15c s5p s5l s5c x6 (addI .i64 x7 1)) (
   again8 more_3 out_4p out_4l out_4c s5p s5l s5c x6 (addI .i64 x7 1))) (
  k (.slice out_4p out_4l out_4c))
theorem F12_L1_rule {k : Value → W} (I : Int → Option Addr → Nat → Nat → Option Addr → Nat → Nat → Int → Int → W) (μ : Int → Option Addr → Nat → Nat → Option Addr → Nat → Nat → Int → Int → World → Nat)
  (hr : ∀ (more_3 : Int) (out_4p : Option Addr) (out_4l : Nat) (out_4c : Nat) (s5p : Option Addr) (s5l : Nat) (s5c : Nat) (x6 : Int) (x7 : Int) (w : World), I more_3 out_4p out_4l out_4c s5p s5l s5c x6 x7 w → F12_L1 k (fun more_3' out_4p' out_4l' out_4c' s5p' s5l' s5c' x6' x7' w' => I more_3' out_4p' out_4l' out_4c' s5p' s5l' s5c' x6' x7' w' ∧ μ more_3' out_4p' out_4l' out_4c' s5p' s5l' s5c' x6' x7' w' < μ more_3 out_4p out_4l out_4c s5p s5l s5c x6 x7 w) more_3 out_4p out_4l out_4c s5p s5l s5c x6 x7 w)
  {w : World} {more_3 : Int} {out_4p : Option Addr} {out_4l : Nat} {out_4c : Nat} {s5p : Option Addr} {s5l : Nat} {s5c : Nat} {x6 : Int} {x7 : Int} (h : I more_3 out_4p out_4l out_4c s5p s5l s5c x6 x7 w) : Loop [(.int .i64), .slice, .slice, (.int .i64), (.int .i64)] (F12_L1 k) more_3 out_4p out_4l out_4c s5p s5l s5c x6 x7 w :=
  Loop_intro (ts := [(.int .i64), .slice, .slice, (.int .i64), (.int .i64)]) (s := (more_3, (out_4p, out_4l, out_4c), (s5p, s5l, s5c), x6, x7, ())) (fun s w => I s.1 s.2.1.1 s.2.1.2.1 s.2.1.2.2 s.2.2.1.1 s.2.2.1.2.1 s.2.2.1.2.2 s.2.2.2.1 s.2.2.2.2.1 w) (fun s w => μ s.1 s.2.1.1 s.2.1.2.1 s.2.1.2.2 s.2.2.1.1 s.2.2.1.2.1 s.2.2.1.2.2 s.2.2.2.1 s.2.2.2.2.1 w) h (fun s w h => hr s.1 s.2.1.1 s.2.1.2.1 s.2.1.2.2 s.2.2.1.1 s.2.2.1.2.1 s.2.2.1.2.2 s.2.2.2.1 s.2.2.2.2.1 w h)
def F12 (k : Value → W) (l_1p : Option Addr) (l_1l : Nat) (l_1c : Nat) (more_2 : Int) : W :=
 Loop [(.int .i64), .slice, .slice, (.int .i64), (.int .i64)] (F12_L1 k) more_2 none 0 0 l_1p l_1l l_1c ((l_1l : Nat) : Int) 0
theorem F12_eq (k : Value → W) (l_1p : Option Addr) (l_1l : Nat) (l_1c : Nat) (more_2 : Int) : compF Go.Proofs.Try.prog Go.Proofs.Try.f12 [(3, [(1, (.int .i64)), (5, .slice), (9, .slice), (10, (.int .i64)), (11, (.int .i64))])] (Go.Proofs.Try.f12.body.getD .skip) [.slice l_1p l_1l l_1c, .int .i64 more_2] k = F12 k l_1p l_1l l_1c more_2 := by kernel_rfl
theorem F12_calls {l_1p : Option Addr} {l_1l : Nat} {l_1c : Nat} {more_2 : Int} {w : World} {R : Ending → World → Prop} (h : F12 (fun v w => R (.returned v) w) l_1p l_1l l_1c more_2 w) : Calls Go.Proofs.Try.prog 12 #[.slice l_1p l_1l l_1c, .int .i64 more_2] w R :=
  calls_of_compF noNum follows [(3, [(1, (.int .i64)), (5, .slice), (9, .slice), (10, (.int .i64)), (11, (.int .i64))])] (f := 12) (fn := Go.Proofs.Try.f12) (body := Go.Proofs.Try.f12.body.getD .skip) (args := [.slice l_1p l_1l l_1c, .int .i64 more_2]) rfl rfl (Nat.le_of_ble_eq_true rfl) ((congrFun (F12_eq _ l_1p l_1l l_1c more_2) w).mpr h)
theorem F12_call {l_1p : Option Addr} {l_1l : Nat} {l_1c : Nat} {more_2 : Int} {w : World} {g : Fn W (RTy.leaves (.s (.one .slice)))} (h : F12 (fun v => Back (.s (.one .slice)) g (.returned v)) l_1p l_1l l_1c more_2 w) : CallT Go.Proofs.Try.prog 12 [.slice l_1p l_1l l_1c, .int .i64 more_2] (.s (.one .slice)) g w := F12_calls h

/-! ## slices.Equal[[]bool,bool] -/
def F14_L1 (k : Value → W) (again7 : Option Addr → Nat → Nat → Option Addr → Nat → Nat → Int → Int → W) (s1_3p : Option Addr) (s1_3l : Nat) (s1_3c : Nat) (s2_4p : Option Addr) (s2_4l : Nat) (s2_4c : Nat) (x5 : Int) (x6 : Int) : W :=
 BIf (decide (x6 < x5)) (
  Drw <|
  NN s1_3p fun a8 =>
  Req (0 ≤ x6 ∧ x6 < ((s1_3l : Nat) : Int)) <|
  LoadT .bool (a8.add x6.toNat) fun b9 =>
  NN s2_4p fun a10 =>
  Req (0 ≤ x6 ∧ x6 < ((s2_4l : Nat) : Int)) <|
  LoadT .bool (a10.add x6.toNat) fun b11 =>
  BIf (!(b9 == b11)) (
   k (.bool false)) (
   again7 s1_3p s1_3l s1_3c s2_4p s2_4l s2_4c x5 (addI .i64 x6 1))) (
  k (.bool true))
theorem F14_L1_rule {k : Value → W} (I : Option Addr → Nat → Nat → Option Addr → Nat → Nat → Int → Int → W) (μ : Option Addr → Nat → Nat → Option Addr → Nat → Nat → Int → Int → World → Nat)
  (hr : ∀ (s1_3p : Option Addr) (s1_3l : Nat) (s1_3c : Nat) (s2_4p : Option Addr) (s2_4l : Nat) (s2_4c : Nat) (x5 : Int) (x6 : Int) (w : World), I s1_3p s1_3l s1_3c s2_4p s2_4l s2_4c x5 x6 w → F14_L1 k (fun s1_3p' s1_3l' s1_3c' s2_4p' s2_4l' s2_4c' x5' x6' w' => I s1_3p' s1_3l' s1_3c' s2_4p' s2_4l' s2_4c' x5' x6' w' ∧ μ s1_3p' s1_3l' s1_3c' s2_4p' s2_4l' s2_4c' x5' x6' w' < μ s1_3p s1_3l s1_3c s2_4p s2_4l s2_4c x5 x6 w) s1_3p s1_3l s1_3c s2_4p s2_4l s2_4c x5 x6 w)
  {w : World} {s1_3p : Option Addr} {s1_3l : Nat} {s1_3c : Nat} {s2_4p : Option Addr} {s2_4l : Nat} {s2_4c : Nat} {x5 : Int} {x6 : Int} (h : I s1_3p s1_3l s1_3c s2_4p s2_4l s2_4c x5 x6 w) : Loop [.slice, .slice, (.int .i64), (.int .i64)] (F14_L1 k) s1_3p s1_3l s1_3c s2_4p s2_4l s2_4c x5 x6 w :=
  Loop_intro (ts := [.slice, .slice, (.int .i64), (.int .i64)]) (s := ((s1_3p, s1_3l, s1_3c), (s2_4p, s2_4l, s2_4c), x5, x6, ())) (fun s w => I s.1.1 s.1.2.1 s.1.2.2 s.2.1.1 s.2.1.2.1 s.2.1.2.2 s.2.2.1 s.2.2.2.1 w) (fun s w => μ s.1.1 s.1.2.1 s.1.2.2 s.2.1.1 s.2.1.2.1 s.2.1.2.2 s.2.2.1 s.2.2.2.1 w) h (fun s w h => hr s.1.1 s.1.2.1 s.1.2.2 s.2.1.1 s.2.1.2.1 s.2.1.2.2 s.2.2.1 s.2.2.2.1 w h)
def F14 (k : Value → W) (s1_1p : Option Addr) (s1_1l : Nat) (s1_1c : Nat) (s2_2p : Option Addr) (s2_2l : Nat) (s2_2c : Nat) : W :=
 BIf (((s1_1l : Nat) : Int) != ((s2_2l : Nat) : Int)) (
  k (.bool false)) (
  Loop [.slice, .slice, (.int .i64), (.int .i64)] (F14_L1 k) s1_1p s1_1l s1_1c s2_2p s2_2l s2_2c ((s1_1l : Nat) : Int) 0)
theorem F14_eq (k : Value → W) (s1_1p : Option Addr) (s1_1l : Nat) (s1_1c : Nat) (s2_2p : Option Addr) (s2_2l : Nat) (s2_2c : Nat) : compF Go.Proofs.Try.prog Go.Proofs.Try.f14 [(4, [(0, .slice), (1, .slice), (12, (.int .i64)), (13, (.int .i64))])] (Go.Proofs.Try.f14.body.getD .skip) [.slice s1_1p s1_1l s1_1c, .slice s2_2p s2_2l s2_2c] k = F14 k s1_1p s1_1l s1_1c s2_2p s2_2l s2_2c := by kernel_rfl
theorem F14_calls {s1_1p : Option Addr} {s1_1l : Nat} {s1_1c : Nat} {s2_2p : Option Addr} {s2_2l : Nat} {s2_2c : Nat} {w : World} {R : Ending → World → Prop} (h : F14 (fun v w => R (.returned v) w) s1_1p s1_1l s1_1c s2_2p s2_2l s2_2c w) : Calls Go.Proofs.Try.prog 14 #[.slice s1_1p s1_1l s1_1c, .slice s2_2p s2_2l s2_2c] w R :=
  calls_of_compF noNum follows [(4, [(0, .slice), (1, .slice), (12, (.int .i64)), (13, (.int .i64))])] (f := 14) (fn := Go.Proofs.Try.f14) (body := Go.Proofs.Try.f14.body.getD .skip) (args := [.slice s1_1p s1_1l s1_1c, .slice s2_2p s2_2l s2_2c]) rfl rfl (Nat.le_of_ble_eq_true rfl) ((congrFun (F14_eq _ s1_1p s1_1l s1_1c s2_2p s2_2l s2_2c) w).mpr h)
theorem F14_call {s1_1p : Option Addr} {s1_1l : Nat} {s1_1c : Nat} {s2_2p : Option Addr} {s2_2l : Nat} {s2_2c : Nat} {w : World} {g : Fn W (RTy.leaves (.s (.one .bool)))} (h : F14 (fun v => Back (.s (.one .bool)) g (.returned v)) s1_1p s1_1l s1_1c s2_2p s2_2l s2_2c w) : CallT Go.Proofs.Try.prog 14 [.slice s1_1p s1_1l s1_1c, .slice s2_2p s2_2l s2_2c] (.s (.one .bool)) g w := F14_calls h

/-! ## impl.avSaid -/
def F27_L1 (k : Value → W) (again11 : Addr → Addr → Option Addr → Nat → Nat → Int → Int → W) (a6 : Addr) (out_7 : Addr) (s8p : Option Addr) (s8l : Nat) (s8c : Nat) (x9 : Int) (x10 : Int) : W :=
 BIf (decide (x10 < x9)) (
  NN s8p fun a12 =>
  Req (0 ≤ x10 ∧ x10 < ((s8l : Nat) : Int)) <|
  LoadT .any (a12.add x10.toNat) fun v13 =>
  RawS Go.Proofs.Try.prog (Instr.typeAssert v13 93 95 true) (.tup [(.agg [(.int .i64), (.int .i64)]), (.one .bool)]) fun x14 x15 b16 =>
  New [.int .i64 0, .int .i64 0] 95 fun n17 =>
  Store1 ⟨n17, 0, none⟩ (.int .i64 x14) <|
  Store1 ⟨n17, 1, none⟩ (.int .i64 x15) <|
  Drw <|
  LoadT .slice (out_7.add 1) fun s18p s18l s18c =>
  LoadT (.int .i64) ⟨n17, 0, none⟩ fun x19 =>
  LoadT (.int .i64) ⟨n17, 1, none⟩ fun x20 =>
  LoadT .slice (out_7.add 2) fun s21p s21l s21c =>
  Both (
   RawT Go.Proofs.Try.prog (Instr.buildSlice 37 1 [(0, .agg #[.int .i64 x19, .int .i64 x20])].toArray) (.s (.one .slice)) fun s22p s22l s22c =>
   Chk1 (out_7.add 2) (.slice s21p s21l s21c) <|
   Chk1 (out_7.add 1) (.slice s18p s18l s18c) <|
   Both (
    NextT Go.Proofs.Try.prog (builtin .append #[37, 37] 37 [false, false].toArray [.slice s18p s18l s18c, .slice s22p s22l s22c].toArray) (.s (.one .slice)) fun s23p s23l s23c =>
    Chk1 (out_7.add 2) (.slice s21p s21l s21c) <|
    Chk1 ⟨n17, 0, none⟩ (.int .i64 x19) <|
    Chk1 ⟨n17, 1, none⟩ (.int .i64 x20) <|
    RawT Go.Proofs.Try.prog (Instr.buildSlice 26 1 [(0, .bool b16)].toArray) (.s (.one .slice)) fun s24p s24l s24c =>
    Chk1 (out_7.add 2) (.slice s21p s21l s21c) <|
    Chk1 ⟨n17, 0, none⟩ (.int .i64 x19) <|
    Chk1 ⟨n17, 1, none⟩ (.int .i64 x20) <|
    Chk1 (out_7.add 1) (.slice s18p s18l s18c) <|
    NextT Go.Proofs.Try.prog (builtin .append #[26, 26] 26 [false, false].toArray [.slice s21p s21l s21c, .slice s24p s24l s24c].toArray) (.s (.one .slice)) fun s25p s25l s25c =>
    Chk1 ⟨n17, 0, none⟩ (.int .i64 x19) <|
    Chk1 ⟨n17, 1, none⟩ (.int .i64 x20) <|
    Chk1 (out_7.add 1) (.slice s18p s18l s18c) <|
    Store1 (out_7.add 1) (.slice s23p s23l s23c) <|
    Store1 (out_7.add 2) (.slice s25p s25l s25c) <|
    again11 a6 out_7 s8p s8l s8c x9 (addI .i64 x10 1)) (
    RawT Go.Proofs.Try.prog (Instr.buildSlice 26 1 [(0, .bool b16)].toArray) (.s (.one .slice)) fun s26p s26l s26c =>
    Chk1 (out_7.add 2) (.slice s21p s21l s21c) <|
    Chk1 ⟨n17, 0, none⟩ (.int .i64 x19) <|
    Chk1 ⟨n17, 1, none⟩ (.int .i64 x20) <|
    Chk1 (out_7.add 1) (.slice s18p s18l s18c) <|
    NextT Go.Proofs.Try.prog (builtin .append #[37, 37] 37 [false, false].toArray [.slice s18p s18l s18c, .slice s22p s22l s22c].toArray) (.s (.one .slice)) fun s27p s27l s27c =>
    Chk1 (out_7.add 2) (.slice s21p s21l s21c) <|
    Chk1 ⟨n17, 0, none⟩ (.int .i64 x19) <|
    Chk1 ⟨n17, 1, none⟩ (.int .i64 x20) <|
    NextT Go.Proofs.Try.prog (builtin .append #[26, 26] 26 [false, false].toArray [.slice s21p s21l s21c, .slice s26p s26l s26c].toArray) (.s (.one .slice)) fun s28p s28l s28c =>
    Chk1 ⟨n17, 0, none⟩ (.int .i64 x19) <|
    Chk1 ⟨n17, 1, none⟩ (.int .i64 x20) <|
    Chk1 (out_7.add 1) (.slice s18p s18l s18c) <|
    Store1 (out_7.add 1) (.slice s27p s27l s27c) <|
    Store1 (out_7.add 2) (.slice s28p s28l s28c) <|
    again11 a6 out_7 s8p s8l s8c x9 (addI .i64 x10 1))) (
   RawT Go.Proofs.Try.prog (Instr.buildSlice 26 1 [(0, .bool b16)].toArray) (.s (.one .slice)) fun s29p s29l s29c =>
   Chk1 (out_7.add 2) (.slice s21p s21l s21c) <|
   Chk1 ⟨n17, 0, none⟩ (.int .i64 x19) <|
   Chk1 ⟨n17, 1, none⟩ (.int .i64 x20) <|
   Chk1 (out_7.add 1) (.slice s18p s18l s18c) <|
   RawT Go.Proofs.Try.prog (Instr.buildSlice 37 1 [(0, .agg #[.int .i64 x19, .int .i64 x20])].toArray) (.s (.one .slice)) fun s30p s30l s30c =>
   Chk1 (out_7.add 2) (.slice s21p s21l s21c) <|
   Chk1 (out_7.add 1) (.slice s18p s18l s18c) <|
   NextT Go.Proofs.Try.prog (builtin .append #[37, 37] 37 [false, false].toArray [.slice s18p s18l s18c, .slice s30p s30l s30c].toArray) (.s (.one .slice)) fun s31p s31l s31c =>
   Chk1 (out_7.add 2) (.slice s21p s21l s21c) <|
   Chk1 ⟨n17, 0, none⟩ (.int .i64 x19) <|
   Chk1 ⟨n17, 1, none⟩ (.int .i64 x20) <|
   NextT Go.Proofs.Try.prog (builtin .append #[26, 26] 26 [false, false].toArray [.slice s21p s21l s21c, .slice s29p s29l s29c].toArray) (.s (.one .slice)) fun s32p s32l s32c =>
   Chk1 ⟨n17, 0, none⟩ (.int .i64 x19) <|
   Chk1 ⟨n17, 1, none⟩ (.int .i64 x20) <|
   Chk1 (out_7.add 1) (.slice s18p s18l s18c) <|
   Store1 (out_7.add 1) (.slice s31p s31l s31c) <|
   Store1 (out_7.add 2) (.slice s32p s32l s32c) <|
   again11 a6 out_7 s8p s8l s8c x9 (addI .i64 x10 1))) (
  LoadT (.int .i64) (out_7.add 0) fun x33 =>
  LoadT .slice (out_7.add 1) fun s34p s34l s34c =>
  LoadT .slice (out_7.add 2) fun s35p s35l s35c =>
  Store1 (a6.add 0) (.int .i64 x33) <|
  Store1 (a6.add 1) (.slice s34p s34l s34c) <|
  Store1 (a6.add 2) (.slice s35p s35l s35c) <|
  LoadT (.int .i64) (a6.add 0) fun x36 =>
  LoadT .slice (a6.add 1) fun s37p s37l s37c =>
  LoadT .slice (a6.add 2) fun s38p s38l s38c =>
  k (.agg #[.int .i64 x36, .slice s37p s37l s37c, .slice s38p s38l s38c]))
theorem F27_L1_rule {k : Value → W} (I : Addr → Addr → Option Addr → Nat → Nat → Int → Int → W) (μ : Addr → Addr → Option Addr → Nat → Nat → Int → Int → World → Nat)
  (hr : ∀ (a6 : Addr) (out_7 : Addr) (s8p : Option Addr) (s8l : Nat) (s8c : Nat) (x9 : Int) (x10 : Int) (w : World), I a6 out_7 s8p s8l s8c x9 x10 w → F27_L1 k (fun a6' out_7' s8p' s8l' s8c' x9' x10' w' => I a6' out_7' s8p' s8l' s8c' x9' x10' w' ∧ μ a6' out_7' s8p' s8l' s8c' x9' x10' w' < μ a6 out_7 s8p s8l s8c x9 x10 w) a6 out_7 s8p s8l s8c x9 x10 w)
  {w : World} {a6 : Addr} {out_7 : Addr} {s8p : Option Addr} {s8l : Nat} {s8c : Nat} {x9 : Int} {x10 : Int} (h : I a6 out_7 s8p s8l s8c x9 x10 w) : Loop [.addr, .addr, .slice, (.int .i64), (.int .i64)] (F27_L1 k) a6 out_7 s8p s8l s8c x9 x10 w :=
  Loop_intro (ts := [.addr, .addr, .slice, (.int .i64), (.int .i64)]) (s := (a6, out_7, (s8p, s8l, s8c), x9, x10, ())) (fun s w => I s.1 s.2.1 s.2.2.1.1 s.2.2.1.2.1 s.2.2.1.2.2 s.2.2.2.1 s.2.2.2.2.1 w) (fun s w => μ s.1 s.2.1 s.2.2.1.1 s.2.2.1.2.1 s.2.2.1.2.2 s.2.2.2.1 s.2.2.2.2.1 w) h (fun s w h => hr s.1 s.2.1 s.2.2.1.1 s.2.2.1.2.1 s.2.2.1.2.2 s.2.2.2.1 s.2.2.2.2.1 w h)
def F27 (k : Value → W) (t_1 : Option Addr) (l_2p : Option Addr) (l_2l : Nat) (l_2c : Nat) : W :=
 New [.int .i64 0, .slice none 0 0, .slice none 0 0] 42 fun n3 =>
 CallT Go.Proofs.Try.prog 45 [.pointer t_1] (.s (.one (.int .u64))) fun x4 =>
 New [.int .i64 0, .slice none 0 0, .slice none 0 0] 42 fun n5 =>
 Store1 ⟨n5, 0, none⟩ (.int .i64 (IntKind.wrap .i64 x4)) <|
 Store1 ⟨n5, 1, none⟩ (.slice none 0 0) <|
 Store1 ⟨n5, 2, none⟩ (.slice none 0 0) <|
 Loop [.addr, .addr, .slice, (.int .i64), (.int .i64)] (F27_L1 k) ⟨n3, 0, none⟩ ⟨n5, 0, none⟩ l_2p l_2l l_2c ((l_2l : Nat) : Int) 0
theorem F27_eq (k : Value → W) (t_1 : Option Addr) (l_2p : Option Addr) (l_2l : Nat) (l_2c : Nat) : compF Go.Proofs.Try.prog Go.Proofs.Try.f27 [(3, [(4, .addr), (5, .addr), (14, .slice), (15, (.int .i64)), (16, (.int .i64))])] (Go.Proofs.Try.f27.body.getD .skip) [.pointer t_1, .slice l_2p l_2l l_2c] k = F27 k t_1 l_2p l_2l l_2c := by kernel_rfl
theorem F27_calls {t_1 : Option Addr} {l_2p : Option Addr} {l_2l : Nat} {l_2c : Nat} {w : World} {R : Ending → World → Prop} (h : F27 (fun v w => R (.returned v) w) t_1 l_2p l_2l l_2c w) : Calls Go.Proofs.Try.prog 27 #[.pointer t_1, .slice l_2p l_2l l_2c] w R :=
  calls_of_compF noNum follows [(3, [(4, .addr), (5, .addr), (14, .slice), (15, (.int .i64)), (16, (.int .i64))])] (f := 27) (fn := Go.Proofs.Try.f27) (body := Go.Proofs.Try.f27.body.getD .skip) (args := [.pointer t_1, .slice l_2p l_2l l_2c]) rfl rfl (Nat.le_of_ble_eq_true rfl) ((congrFun (F27_eq _ t_1 l_2p l_2l l_2c) w).mpr h)
theorem F27_call {t_1 : Option Addr} {l_2p : Option Addr} {l_2l : Nat} {l_2c : Nat} {w : World} {g : Fn W (RTy.leaves (.s (.agg [(.int .i64), .slice, .slice])))} (h : F27 (fun v => Back (.s (.agg [(.int .i64), .slice, .slice])) g (.returned v)) t_1 l_2p l_2l l_2c w) : CallT Go.Proofs.Try.prog 27 [.pointer t_1, .slice l_2p l_2l l_2c] (.s (.agg [(.int .i64), .slice, .slice])) g w := F27_calls h

/-! ## impl.avEntries -/
def F29_L1 (k : Value → W) (again6 : Option Addr → Nat → Nat → Option Addr → Nat → Nat → Int → Int → W) (out_2p : Option Addr) (out_2l : Nat) (out_2c : Nat) (s3p : Option Addr) (s3l : Nat) (s3c : Nat) (x4 : Int) (x5 : Int) : W :=
 BIf (decide (x5 < x4)) (
  NN s3p fun a7 =>
  Req (0 ≤ x5 ∧ x5 < ((s3l : Nat) : Int)) <|
  LoadT (.int .i64) ((a7.add (x5.toNat * 2)).add 0) fun x8 =>
  LoadT (.int .i64) ((a7.add (x5.toNat * 2)).add 1) fun x9 =>
  New [.int .i64 0, .int .i64 0] 40 fun n10 =>
  Store1 ⟨n10, 0, none⟩ (.int .i64 x8) <|
  Store1 ⟨n10, 1, none⟩ (.int .i64 x9) <|
  LoadT (.int .i64) ⟨n10, 0, none⟩ fun x11 =>
  LoadT (.int .i64) ⟨n10, 1, none⟩ fun x12 =>
  RawT Go.Proofs.Try.prog (Instr.buildSlice 70 1 [(0, .iface 95 (.agg #[.int .i64 x11, .int .i64 x12]))].toArray) (.s (.one .slice)) fun s13p s13l s13c =>
  NextT Go.Proofs.Try.prog (builtin .append #[70, 70] 70 [false, false].toArray [.slice out_2p out_2l out_2c, .slice s13p s13l s13c].toArray) (.s (.one .slice)) fun s14p s14l s14c =>
  again6 s14p s14l s14c s3p s3l s3c x4 (addI .i64 x5 1)) (
  k (.slice out_2p out_2l out_2c))
theorem F29_L1_rule {k : Value → W} (I : Option Addr → Nat → Nat → Option Addr → Nat → Nat → Int → Int → W) (μ : Option Addr → Nat → Nat → Option Addr → Nat → Nat → Int → Int → World → Nat)
  (hr : ∀ (out_2p : Option Addr) (out_2l : Nat) (out_2c : Nat) (s3p : Option Addr) (s3l : Nat) (s3c : Nat) (x4 : Int) (x5 : Int) (w : World), I out_2p out_2l out_2c s3p s3l s3c x4 x5 w → F29_L1 k (fun out_2p' out_2l' out_2c' s3p' s3l' s3c' x4' x5' w' => I out_2p' out_2l' out_2c' s3p' s3l' s3c' x4' x5' w' ∧ μ out_2p' out_2l' out_2c' s3p' s3l' s3c' x4' x5' w' < μ out_2p out_2l out_2c s3p s3l s3c x4 x5 w) out_2p out_2l out_2c s3p s3l s3c x4 x5 w)
  {w : World} {out_2p : Option Addr} {out_2l : Nat} {out_2c : Nat} {s3p : Option Addr} {s3l : Nat} {s3c : Nat} {x4 : Int} {x5 : Int} (h : I out_2p out_2l out_2c s3p s3l s3c x4 x5 w) : Loop [.slice, .slice, (.int .i64), (.int .i64)] (F29_L1 k) out_2p out_2l out_2c s3p s3l s3c x4 x5 w :=
  Loop_intro (ts := [.slice, .slice, (.int .i64), (.int .i64)]) (s := ((out_2p, out_2l, out_2c), (s3p, s3l, s3c), x4, x5, ())) (fun s w => I s.1.1 s.1.2.1 s.1.2.2 s.2.1.1 s.2.1.2.1 s.2.1.2.2 s.2.2.1 s.2.2.2.1 w) (fun s w => μ s.1.1 s.1.2.1 s.1.2.2 s.2.1.1 s.2.1.2.1 s.2.1.2.2 s.2.2.1 s.2.2.2.1 w) h (fun s w h => hr s.1.1 s.1.2.1 s.1.2.2 s.2.1.1 s.2.1.2.1 s.2.1.2.2 s.2.2.1 s.2.2.2.1 w h)
def F29 (k : Value → W) (l_1p : Option Addr) (l_1l : Nat) (l_1c : Nat) : W :=
 Loop [.slice, .slice, (.int .i64), (.int .i64)] (F29_L1 k) none 0 0 l_1p l_1l l_1c ((l_1l : Nat) : Int) 0
theorem F29_eq (k : Value → W) (l_1p : Option Addr) (l_1l : Nat) (l_1c : Nat) : compF Go.Proofs.Try.prog Go.Proofs.Try.f29 [(3, [(3, .slice), (6, .slice), (7, (.int .i64)), (8, (.int .i64))])] (Go.Proofs.Try.f29.body.getD .skip) [.slice l_1p l_1l l_1c] k = F29 k l_1p l_1l l_1c := by kernel_rfl
theorem F29_calls {l_1p : Option Addr} {l_1l : Nat} {l_1c : Nat} {w : World} {R : Ending → World → Prop} (h : F29 (fun v w => R (.returned v) w) l_1p l_1l l_1c w) : Calls Go.Proofs.Try.prog 29 #[.slice l_1p l_1l l_1c] w R :=
  calls_of_compF noNum follows [(3, [(3, .slice), (6, .slice), (7, (.int .i64)), (8, (.int .i64))])] (f := 29) (fn := Go.Proofs.Try.f29) (body := Go.Proofs.Try.f29.body.getD .skip) (args := [.slice l_1p l_1l l_1c]) rfl rfl (Nat.le_of_ble_eq_true rfl) ((congrFun (F29_eq _ l_1p l_1l l_1c) w).mpr h)
theorem F29_call {l_1p : Option Addr} {l_1l : Nat} {l_1c : Nat} {w : World} {g : Fn W (RTy.leaves (.s (.one .slice)))} (h : F29 (fun v => Back (.s (.one .slice)) g (.returned v)) l_1p l_1l l_1c w) : CallT Go.Proofs.Try.prog 29 [.slice l_1p l_1l l_1c] (.s (.one .slice)) g w := F29_calls h

/-! ## impl.avAll -/
def F26_J1 (k : Value → W) (again9 : Option Addr → Nat → Nat → Option Addr → Nat → Nat → Option Addr → Nat → Nat → Int → Int → W) (l_25p : Option Addr) (l_25l : Nat) (l_25c : Nat) (out_26p : Option Addr) (out_26l : Nat) (out_26c : Nat) (t_27 : Option Addr) (said_28p : Option Addr) (said_28l : Nat) (said_28c : Nat) (s29p : Option Addr) (s29l : Nat) (s29c : Nat) (x30 : Int) (x31 : Int) : W :=
 CallT Go.Proofs.Try.prog 27 [.pointer t_27, .slice said_28p said_28l said_28c] (.s (.agg [(.int .i64), .slice, .slice])) fun x32 s33p s33l s33c s34p s34l s34c =>
 RawT Go.Proofs.Try.prog (Instr.buildSlice 51 1 [(0, .agg #[.int .i64 x32, .slice s33p s33l s33c, .slice s34p s34l s34c])].toArray) (.s (.one .slice)) fun s35p s35l s35c =>
 NextT Go.Proofs.Try.prog (builtin .append #[51, 51] 51 [false, false].toArray [.slice out_26p out_26l out_26c, .slice s35p s35l s35c].toArray) (.s (.one .slice)) fun s36p s36l s36c =>
 again9 l_25p l_25l l_25c s36p s36l s36c s29p s29l s29c x30 (addI .i64 x31 1)
def F26_L1 (k : Value → W) (again9 : Option Addr → Nat → Nat → Option Addr → Nat → Nat → Option Addr → Nat → Nat → Int → Int → W) (l_4p : Option Addr) (l_4l : Nat) (l_4c : Nat) (out_5p : Option Addr) (out_5l : Nat) (out_5c : Nat) (s6p : Option Addr) (s6l : Nat) (s6c : Nat) (x7 : Int) (x8 : Int) : W :=
 BIf (decide (x8 < x7)) (
  NN s6p fun a10 =>
  Req (0 ≤ x8 ∧ x8 < ((s6l : Nat) : Int)) <|
  LoadT (.int .i64) ((a10.add (x8.toNat * 3)).add 0) fun x11 =>
  LoadT (.int .i64) ((a10.add (x8.toNat * 3)).add 1) fun x12 =>
  LoadT .slice ((a10.add (x8.toNat * 3)).add 2) fun s13p s13l s13c =>
  New [.int .i64 0, .int .i64 0, .slice none 0 0] 46 fun n14 =>
  Store1 ⟨n14, 0, none⟩ (.int .i64 x11) <|
  Store1 ⟨n14, 1, none⟩ (.int .i64 x12) <|
  Store1 ⟨n14, 2, none⟩ (.slice s13p s13l s13c) <|
  LoadT (.int .i64) ⟨n14, 1, none⟩ fun x15 =>
  Req (((l_4l : Nat) : Int) ≠ (0 : Int)) <|
  Req (((l_4l : Nat) : Int) ≠ (0 : Int)) <|
  NN l_4p fun a16 =>
  Req (0 ≤ remI (addI .i64 (remI x15 ((l_4l : Nat) : Int)) ((l_4l : Nat) : Int)) ((l_4l : Nat) : Int) ∧ remI (addI .i64 (remI x15 ((l_4l : Nat) : Int)) ((l_4l : Nat) : Int)) ((l_4l : Nat) : Int) < ((l_4l : Nat) : Int)) <|
  LoadT .ptr (a16.add ((remI (addI .i64 (remI x15 ((l_4l : Nat) : Int)) ((l_4l : Nat) : Int)) ((l_4l : Nat) : Int)).toNat)) fun p17 =>
  LoadT (.int .i64) ⟨n14, 0, none⟩ fun x18 =>
  BIf (x18 == 1) (
   LoadT .slice ⟨n14, 2, none⟩ fun s19p s19l s19c =>
   CallT Go.Proofs.Try.prog 29 [.slice s19p s19l s19c] (.s (.one .slice)) fun s20p s20l s20c =>
   CallT Go.Proofs.Try.prog 43 [.pointer p17, .slice s20p s20l s20c] (.tup [(.one .ptr), (.one .slice)]) fun p21 s22p s22l s22c =>
   RawT Go.Proofs.Try.prog (Instr.buildSlice 65 1 [(0, .pointer p21)].toArray) (.s (.one .slice)) fun s23p s23l s23c =>
   NextT Go.Proofs.Try.prog (builtin .append #[65, 65] 65 [false, false].toArray [.slice l_4p l_4l l_4c, .slice s23p s23l s23c].toArray) (.s (.one .slice)) fun s24p s24l s24c =>
   F26_J1 k again9 s24p s24l s24c out_5p out_5l out_5c p21 s22p s22l s22c s6p s6l s6c x7 x8) (
   BIf (x18 == 2) (
    LoadT .slice ⟨n14, 2, none⟩ fun s37p s37l s37c =>
    CallT Go.Proofs.Try.prog 29 [.slice s37p s37l s37c] (.s (.one .slice)) fun s38p s38l s38c =>
    CallT Go.Proofs.Try.prog 44 [.pointer p17, .slice s38p s38l s38c] (.tup [(.one .ptr), (.one .slice)]) fun p39 s40p s40l s40c =>
    RawT Go.Proofs.Try.prog (Instr.buildSlice 65 1 [(0, .pointer p39)].toArray) (.s (.one .slice)) fun s41p s41l s41c =>
    NextT Go.Proofs.Try.prog (builtin .append #[65, 65] 65 [false, false].toArray [.slice l_4p l_4l l_4c, .slice s41p s41l s41c].toArray) (.s (.one .slice)) fun s42p s42l s42c =>
    F26_J1 k again9 s42p s42l s42c out_5p out_5l out_5c p39 s40p s40l s40c s6p s6l s6c x7 x8) (
    BIf (x18 == 3) (
     LoadT .slice ⟨n14, 2, none⟩ fun s43p s43l s43c =>
     CallT Go.Proofs.Try.prog 29 [.slice s43p s43l s43c] (.s (.one .slice)) fun s44p s44l s44c =>
     CallT Go.Proofs.Try.prog 28 [.pointer p17, .slice s44p s44l s44c] (.s (.one .slice)) fun s45p s45l s45c =>
     F26_J1 k again9 l_4p l_4l l_4c out_5p out_5l out_5c p17 s45p s45l s45c s6p s6l s6c x7 x8) (
     F26_J1 k again9 l_4p l_4l l_4c out_5p out_5l out_5c p17 none 0 0 s6p s6l s6c x7 x8)))) (
  k (.tuple #[.slice l_4p l_4l l_4c, .slice out_5p out_5l out_5c]))
theorem F26_L1_rule {k : Value → W} (I : Option Addr → Nat → Nat → Option Addr → Nat → Nat → Option Addr → Nat → Nat → Int → Int → W) (μ : Option Addr → Nat → Nat → Option Addr → Nat → Nat → Option Addr → Nat → Nat → Int → Int → World → Nat)
  (hr : ∀ (l_4p : Option Addr) (l_4l : Nat) (l_4c : Nat) (out_5p : Option Addr) (out_5l : Nat) (out_5c : Nat) (s6p : Option Addr) (s6l : Nat) (s6c : Nat) (x7 : Int) (x8 : Int) (w : World), I l_4p l_4l l_4c out_5p out_5l out_5c s6p s6l s6c x7 x8 w → F26_L1 k (fun l_4p' l_4l' l_4c' out_5p' out_5l' out_5c' s6p' s6l' s6c' x7' x8' w' => I l_4p' l_4l' l_4c' out_5p' out_5l' out_5c' s6p' s6l' s6c' x7' x8' w' ∧ μ l_4p' l_4l' l_4c' out_5p' out_5l' out_5c' s6p' s6l' s6c' x7' x8' w' < μ l_4p l_4l l_4c out_5p out_5l out_5c s6p s6l s6c x7 x8 w) l_4p l_4l l_4c out_5p out_5l out_5c s6p s6l s6c x7 x8 w)
  {w : World} {l_4p : Option Addr} {l_4l : Nat} {l_4c : Nat} {out_5p : Option Addr} {out_5l : Nat} {out_5c : Nat} {s6p : Option Addr} {s6l : Nat} {s6c : Nat} {x7 : Int} {x8 : Int} (h : I l_4p l_4l l_4c out_5p out_5l out_5c s6p s6l s6c x7 x8 w) : Loop [.slice, .slice, .slice, (.int .i64), (.int .i64)] (F26_L1 k) l_4p l_4l l_4c out_5p out_5l out_5c s6p s6l s6c x7 x8 w :=
  Loop_intro (ts := [.slice, .slice, .slice, (.int .i64), (.int .i64)]) (s := ((l_4p, l_4l, l_4c), (out_5p, out_5l, out_5c), (s6p, s6l, s6c), x7, x8, ())) (fun s w => I s.1.1 s.1.2.1 s.1.2.2 s.2.1.1 s.2.1.2.1 s.2.1.2.2 s.2.2.1.1 s.2.2.1.2.1 s.2.2.1.2.2 s.2.2.2.1 s.2.2.2.2.1 w) (fun s w => μ s.1.1 s.1.2.1 s.1.2.2 s.2.1.1 s.2.1.2.1 s.2.1.2.2 s.2.2.1.1 s.2.2.1.2.1 s.2.2.1.2.2 s.2.2.2.1 s.2.2.2.2.1 w) h (fun s w h => hr s.1.1 s.1.2.1 s.1.2.2 s.2.1.1 s.2.1.2.1 s.2.1.2.2 s.2.2.1.1 s.2.2.1.2.1 s.2.2.1.2.2 s.2.2.2.1 s.2.2.2.2.1 w h)
def F26 (k : Value → W) (steps_1p : Option Addr) (steps_1l : Nat) (steps_1c : Nat) : W :=
 CallT Go.Proofs.Try.prog 42 [] (.s (.one .ptr)) fun p2 =>
 RawT Go.Proofs.Try.prog (Instr.buildSlice 65 1 [(0, .pointer p2)].toArray) (.s (.one .slice)) fun s3p s3l s3c =>
 Loop [.slice, .slice, .slice, (.int .i64), (.int .i64)] (F26_L1 k) s3p s3l s3c none 0 0 steps_1p steps_1l steps_1c ((steps_1l : Nat) : Int) 0
theorem F26_eq (k : Value → W) (steps_1p : Option Addr) (steps_1l : Nat) (steps_1c : Nat) : compF Go.Proofs.Try.prog Go.Proofs.Try.f26 [(4, [(4, .slice), (5, .slice), (12, .slice), (13, (.int .i64)), (14, (.int .i64))])] (Go.Proofs.Try.f26.body.getD .skip) [.slice steps_1p steps_1l steps_1c] k = F26 k steps_1p steps_1l steps_1c := by kernel_rfl
theorem F26_calls {steps_1p : Option Addr} {steps_1l : Nat} {steps_1c : Nat} {w : World} {R : Ending → World → Prop} (h : F26 (fun v w => R (.returned v) w) steps_1p steps_1l steps_1c w) : Calls Go.Proofs.Try.prog 26 #[.slice steps_1p steps_1l steps_1c] w R :=
  calls_of_compF noNum follows [(4, [(4, .slice), (5, .slice), (12, .slice), (13, (.int .i64)), (14, (.int .i64))])] (f := 26) (fn := Go.Proofs.Try.f26) (body := Go.Proofs.Try.f26.body.getD .skip) (args := [.slice steps_1p steps_1l steps_1c]) rfl rfl (Nat.le_of_ble_eq_true rfl) ((congrFun (F26_eq _ steps_1p steps_1l steps_1c) w).mpr h)
theorem F26_call {steps_1p : Option Addr} {steps_1l : Nat} {steps_1c : Nat} {w : World} {g : Fn W (RTy.leaves (.tup [(.one .slice), (.one .slice)]))} (h : F26 (fun v => Back (.tup [(.one .slice), (.one .slice)]) g (.returned v)) steps_1p steps_1l steps_1c w) : CallT Go.Proofs.Try.prog 26 [.slice steps_1p steps_1l steps_1c] (.tup [(.one .slice), (.one .slice)]) g w := F26_calls h

/-! ## impl.AVRun -/
def F24 (k : Value → W) (steps_1p : Option Addr) (steps_1l : Nat) (steps_1c : Nat) : W :=
 CallT Go.Proofs.Try.prog 26 [.slice steps_1p steps_1l steps_1c] (.tup [(.one .slice), (.one .slice)]) fun s2p s2l s2c s3p s3l s3c =>
 k (.slice s3p s3l s3c)
theorem F24_eq (k : Value → W) (steps_1p : Option Addr) (steps_1l : Nat) (steps_1c : Nat) : compF Go.Proofs.Try.prog Go.Proofs.Try.f24 [] (Go.Proofs.Try.f24.body.getD .skip) [.slice steps_1p steps_1l steps_1c] k = F24 k steps_1p steps_1l steps_1c := by kernel_rfl
theorem F24_calls {steps_1p : Option Addr} {steps_1l : Nat} {steps_1c : Nat} {w : World} {R : Ending → World → Prop} (h : F24 (fun v w => R (.returned v) w) steps_1p steps_1l steps_1c w) : Calls Go.Proofs.Try.prog 24 #[.slice steps_1p steps_1l steps_1c] w R :=
  calls_of_compF noNum follows [] (f := 24) (fn := Go.Proofs.Try.f24) (body := Go.Proofs.Try.f24.body.getD .skip) (args := [.slice steps_1p steps_1l steps_1c]) rfl rfl (Nat.le_of_ble_eq_true rfl) ((congrFun (F24_eq _ steps_1p steps_1l steps_1c) w).mpr h)
theorem F24_call {steps_1p : Option Addr} {steps_1l : Nat} {steps_1c : Nat} {w : World} {g : Fn W (RTy.leaves (.s (.one .slice)))} (h : F24 (fun v => Back (.s (.one .slice)) g (.returned v)) steps_1p steps_1l steps_1c w) : CallT Go.Proofs.Try.prog 24 [.slice steps_1p steps_1l steps_1c] (.s (.one .slice)) g w := F24_calls h

/-! ## impl.AVStep] -/
def F25 (k : Value → W) (s_1p : Option Addr) (s_1l : Nat) (s_1c : Nat) : W :=
 BIf s_1p.isNone (
  k (.slice none 0 0)) (
  RawT Go.Proofs.Try.prog (Instr.buildSlice 47 0 [].toArray) (.s (.one .slice)) fun s2p s2l s2c =>
  NextT Go.Proofs.Try.prog (builtin .append #[47, 47] 47 [false, false].toArray [.slice s2p s2l s2c, .slice s_1p s_1l s_1c].toArray) (.s (.one .slice)) fun s3p s3l s3c =>
  k (.slice s3p s3l s3c))
theorem F25_eq (k : Value → W) (s_1p : Option Addr) (s_1l : Nat) (s_1c : Nat) : compF Go.Proofs.Try.prog Go.Proofs.Try.f25 [] (Go.Proofs.Try.f25.body.getD .skip) [.slice s_1p s_1l s_1c] k = F25 k s_1p s_1l s_1c := by kernel_rfl
theorem F25_calls {s_1p : Option Addr} {s_1l : Nat} {s_1c : Nat} {w : World} {R : Ending → World → Prop} (h : F25 (fun v w => R (.returned v) w) s_1p s_1l s_1c w) : Calls Go.Proofs.Try.prog 25 #[.slice s_1p s_1l s_1c] w R :=
  calls_of_compF noNum follows [] (f := 25) (fn := Go.Proofs.Try.f25) (body := Go.Proofs.Try.f25.body.getD .skip) (args := [.slice s_1p s_1l s_1c]) rfl rfl (Nat.le_of_ble_eq_true rfl) ((congrFun (F25_eq _ s_1p s_1l s_1c) w).mpr h)
theorem F25_call {s_1p : Option Addr} {s_1l : Nat} {s_1c : Nat} {w : World} {g : Fn W (RTy.leaves (.s (.one .slice)))} (h : F25 (fun v => Back (.s (.one .slice)) g (.returned v)) s_1p s_1l s_1c w) : CallT Go.Proofs.Try.prog 25 [.slice s_1p s_1l s_1c] (.s (.one .slice)) g w := F25_calls h

/-! ## laws.dvAsked -/
def F13_J2 (k : Value → W) (steps_37p : Option Addr) (steps_37l : Nat) (steps_37c : Nat) (a38 : Addr) (said_39p : Option Addr) (said_39l : Nat) (said_39c : Nat) (b40 : Bool) : W :=
 BIf b40 (
  Store1 (a38.add 0) (.int .i64 0) <|
  Store1 (a38.add 1) (.slice none 0 0) <|
  Store1 (a38.add 2) (.slice none 0 0) <|
  LoadT (.int .i64) (a38.add 0) fun x41 =>
  LoadT .slice (a38.add 1) fun s42p s42l s42c =>
  LoadT .slice (a38.add 2) fun s43p s43l s43c =>
  k (.tuple #[.agg #[.int .i64 x41, .slice s42p s42l s42c, .slice s43p s43l s43c], .bool false])) (
  NN said_39p fun a44 =>
  Req (0 ≤ ((steps_37l : Nat) : Int) ∧ ((steps_37l : Nat) : Int) < ((said_39l : Nat) : Int)) <|
  LoadT (.int .i64) ((a44.add ((((steps_37l : Nat) : Int)).toNat * 3)).add 0) fun x45 =>
  LoadT .slice ((a44.add ((((steps_37l : Nat) : Int)).toNat * 3)).add 1) fun s46p s46l s46c =>
  LoadT .slice ((a44.add ((((steps_37l : Nat) : Int)).toNat * 3)).add 2) fun s47p s47l s47c =>
  Store1 (a38.add 0) (.int .i64 x45) <|
  Store1 (a38.add 1) (.slice s46p s46l s46c) <|
  Store1 (a38.add 2) (.slice s47p s47l s47c) <|
  LoadT (.int .i64) (a38.add 0) fun x48 =>
  LoadT .slice (a38.add 1) fun s49p s49l s49c =>
  LoadT .slice (a38.add 2) fun s50p s50l s50c =>
  k (.tuple #[.agg #[.int .i64 x48, .slice s49p s49l s49c, .slice s50p s50l s50c], .bool true]))
def F13_L1 (k : Value → W) (again25 : Option Addr → Nat → Nat → Option Addr → Nat → Nat → Addr → Option Addr → Nat → Nat → Option Addr → Nat → Nat → Int → Int → W) (steps_18p : Option Addr) (steps_18l : Nat) (steps_18c : Nat) (l_19p : Option Addr) (l_19l : Nat) (l_19c : Nat) (a20 : Addr) (ask_21p : Option Addr) (ask_21l : Nat) (ask_21c : Nat) (s22p : Option Addr) (s22l : Nat) (s22c : Nat) (x23 : Int) (x24 : Int) : W :=
 BIf (decide (x24 < x23)) (
  NN s22p fun a26 =>
  Req (0 ≤ x24 ∧ x24 < ((s22l : Nat) : Int)) <|
  LoadT (.int .i64) ((a26.add (x24.toNat * 2)).add 0) fun x27 =>
  LoadT (.int .i64) ((a26.add (x24.toNat * 2)).add 1) fun x28 =>
  New [.int .i64 0, .int .i64 0] 40 fun n29 =>
  Store1 ⟨n29, 0, none⟩ (.int .i64 x27) <|
  Store1 ⟨n29, 1, none⟩ (.int .i64 x28) <|
  LoadT (.int .i64) ⟨n29, 0, none⟩ fun x30 =>
  RawT Go.Proofs.Try.prog (Instr.buildSlice 37 1 [(0, .agg #[.int .i64 x30, .int .i64 0])].toArray) (.s (.one .slice)) fun s31p s31l s31c =>
  NextT Go.Proofs.Try.prog (builtin .append #[37, 37] 37 [false, false].toArray [.slice ask_21p ask_21l ask_21c, .slice s31p s31l s31c].toArray) (.s (.one .slice)) fun s32p s32l s32c =>
  again25 steps_18p steps_18l steps_18c l_19p l_19l l_19c a20 s32p s32l s32c s22p s22l s22c x23 (addI .i64 x24 1)) (
  CallT Go.Proofs.Try.prog 25 [.slice steps_18p steps_18l steps_18c] (.s (.one .slice)) fun s33p s33l s33c =>
  RawT Go.Proofs.Try.prog (Instr.buildSlice 47 1 [(0, .agg #[.int .i64 3, .int .i64 ((steps_18l : Nat) : Int), .slice ask_21p ask_21l ask_21c])].toArray) (.s (.one .slice)) fun s34p s34l s34c =>
  NextT Go.Proofs.Try.prog (builtin .append #[47, 47] 47 [false, false].toArray [.slice s33p s33l s33c, .slice s34p s34l s34c].toArray) (.s (.one .slice)) fun s35p s35l s35c =>
  CallT Go.Proofs.Try.prog 24 [.slice s35p s35l s35c] (.s (.one .slice)) fun s36p s36l s36c =>
  BIf (((s36l : Nat) : Int) != ((s35l : Nat) : Int)) (
   F13_J2 k steps_18p steps_18l steps_18c a20 s36p s36l s36c true) (
   NN s36p fun a51 =>
   Req (0 ≤ ((steps_18l : Nat) : Int) ∧ ((steps_18l : Nat) : Int) < ((s36l : Nat) : Int)) <|
   LoadT .slice ((a51.add ((((steps_18l : Nat) : Int)).toNat * 3)).add 2) fun s52p s52l s52c =>
   BIf (((s52l : Nat) : Int) != ((l_19l : Nat) : Int)) (
    F13_J2 k steps_18p steps_18l steps_18c a20 s36p s36l s36c true) (
    NN s36p fun a53 =>
    Req (0 ≤ ((steps_18l : Nat) : Int) ∧ ((steps_18l : Nat) : Int) < ((s36l : Nat) : Int)) <|
    LoadT .slice ((a53.add ((((steps_18l : Nat) : Int)).toNat * 3)).add 1) fun s54p s54l s54c =>
    F13_J2 k steps_18p steps_18l steps_18c a20 s36p s36l s36c (((s54l : Nat) : Int) != ((l_19l : Nat) : Int)))))
theorem F13_L1_rule {k : Value → W} (I : Option Addr → Nat → Nat → Option Addr → Nat → Nat → Addr → Option Addr → Nat → Nat → Option Addr → Nat → Nat → Int → Int → W) (μ : Option Addr → Nat → Nat → Option Addr → Nat → Nat → Addr → Option Addr → Nat → Nat → Option Addr → Nat → Nat → Int → Int → World → Nat)
  (hr : ∀ (steps_18p : Option Addr) (steps_18l : Nat) (steps_18c : Nat) (l_19p : Option Addr) (l_19l : Nat) (l_19c : Nat) (a20 : Addr) (ask_21p : Option Addr) (ask_21l : Nat) (ask_21c : Nat) (s22p : Option Addr) (s22l : Nat) (s22c : Nat) (x23 : Int) (x24 : Int) (w : World), I steps_18p steps_18l steps_18c l_19p l_19l l_19c a20 ask_21p ask_21l ask_21c s22p s22l s22c x23 x24 w → F13_L1 k (fun steps_18p' steps_18l' steps_18c' l_19p' l_19l' l_19c' a20' ask_21p' ask_21l' ask_21c' s22p' s22l' s22c' x23' x24' w' => I steps_18p' steps_18l' steps_18c' l_19p' l_19l' l_19c' a20' ask_21p' ask_21l' ask_21c' s22p' s22l' s22c' x23' x24' w' ∧ μ steps_18p' steps_18l' steps_18c' l_19p' l_19l' l_19c' a20' ask_21p' ask_21l' ask_21c' s22p' s22l' s22c' x23' x24' w' < μ steps_18p steps_18l steps_18c l_19p l_19l l_19c a20 ask_21p ask_21l ask_21c s22p s22l s22c x23 x24 w) steps_18p steps_18l steps_18c l_19p l_19l l_19c a20 ask_21p ask_21l ask_21c s22p s22l s22c x23 x24 w)
  {w : World} {steps_18p : Option Addr} {steps_18l : Nat} {steps_18c : Nat} {l_19p : Option Addr} {l_19l : Nat} {l_19c : Nat} {a20 : Addr} {ask_21p : Option Addr} {ask_21l : Nat} {ask_21c : Nat} {s22p : Option Addr} {s22l : Nat} {s22c : Nat} {x23 : Int} {x24 : Int} (h : I steps_18p steps_18l steps_18c l_19p l_19l l_19c a20 ask_21p ask_21l ask_21c s22p s22l s22c x23 x24 w) : Loop [.slice, .slice, .addr, .slice, .slice, (.int .i64), (.int .i64)] (F13_L1 k) steps_18p steps_18l steps_18c l_19p l_19l l_19c a20 ask_21p ask_21l ask_21c s22p s22l s22c x23 x24 w :=
  Loop_intro (ts := [.slice, .slice, .addr, .slice, .slice, (.int .i64), (.int .i64)]) (s := ((steps_18p, steps_18l, steps_18c), (l_19p, l_19l, l_19c), a20, (ask_21p, ask_21l, ask_21c), (s22p, s22l, s22c), x23, x24, ())) (fun s w => I s.1.1 s.1.2.1 s.1.2.2 s.2.1.1 s.2.1.2.1 s.2.1.2.2 s.2.2.1 s.2.2.2.1.1 s.2.2.2.1.2.1 s.2.2.2.1.2.2 s.2.2.2.2.1.1 s.2.2.2.2.1.2.1 s.2.2.2.2.1.2.2 s.2.2.2.2.2.1 s.2.2.2.2.2.2.1 w) (fun s w => μ s.1.1 s.1.2.1 s.1.2.2 s.2.1.1 s.2.1.2.1 s.2.1.2.2 s.2.2.1 s.2.2.2.1.1 s.2.2.2.1.2.1 s.2.2.2.1.2.2 s.2.2.2.2.1.1 s.2.2.2.2.1.2.1 s.2.2.2.2.1.2.2 s.2.2.2.2.2.1 s.2.2.2.2.2.2.1 w) h (fun s w h => hr s.1.1 s.1.2.1 s.1.2.2 s.2.1.1 s.2.1.2.1 s.2.1.2.2 s.2.2.1 s.2.2.2.1.1 s.2.2.2.1.2.1 s.2.2.2.1.2.2 s.2.2.2.2.1.1 s.2.2.2.2.1.2.1 s.2.2.2.2.1.2.2 s.2.2.2.2.2.1 s.2.2.2.2.2.2.1 w h)
def F13_J1 (k : Value → W) (steps_11p : Option Addr) (steps_11l : Nat) (steps_11c : Nat) (l_12p : Option Addr) (l_12l : Nat) (l_12c : Nat) (a13 : Addr) (b14 : Bool) : W :=
 BIf b14 (
  Store1 (a13.add 0) (.int .i64 0) <|
  Store1 (a13.add 1) (.slice none 0 0) <|
  Store1 (a13.add 2) (.slice none 0 0) <|
  LoadT (.int .i64) (a13.add 0) fun x15 =>
  LoadT .slice (a13.add 1) fun s16p s16l s16c =>
  LoadT .slice (a13.add 2) fun s17p s17l s17c =>
  k (.tuple #[.agg #[.int .i64 x15, .slice s16p s16l s16c, .slice s17p s17l s17c], .bool false])) (
  Loop [.slice, .slice, .addr, .slice, .slice, (.int .i64), (.int .i64)] (F13_L1 k) steps_11p steps_11l steps_11c l_12p l_12l l_12c a13 none 0 0 l_12p l_12l l_12c ((l_12l : Nat) : Int) 0)
def F13 (k : Value → W) (steps_1p : Option Addr) (steps_1l : Nat) (steps_1c : Nat) (l_2p : Option Addr) (l_2l : Nat) (l_2c : Nat) : W :=
 New [.int .i64 0, .slice none 0 0, .slice none 0 0] 42 fun n3 =>
 New [.int .i64 0, .int .i64 0] 40 fun n4 =>
 Store1 ⟨n4, 0, none⟩ (.int .i64 3) <|
 Store1 ⟨n4, 1, none⟩ (.int .i64 8) <|
 LoadT (.int .i64) ⟨n4, 0, none⟩ fun x5 =>
 LoadT (.int .i64) ⟨n4, 1, none⟩ fun x6 =>
 RawT Go.Proofs.Try.prog (Instr.buildSlice 37 1 [(0, .agg #[.int .i64 x5, .int .i64 x6])].toArray) (.s (.one .slice)) fun s7p s7l s7c =>
 RawT Go.Proofs.Try.prog (Instr.buildSlice 37 2 [(0, .agg #[.int .i64 3, .int .i64 0]), (1, .agg #[.int .i64 4, .int .i64 0])].toArray) (.s (.one .slice)) fun s8p s8l s8c =>
 RawT Go.Proofs.Try.prog (Instr.buildSlice 47 2 [(0, .agg #[.int .i64 1, .int .i64 0, .slice s7p s7l s7c]), (1, .agg #[.int .i64 3, .int .i64 1, .slice s8p s8l s8c])].toArray) (.s (.one .slice)) fun s9p s9l s9c =>
 CallT Go.Proofs.Try.prog 24 [.slice s9p s9l s9c] (.s (.one .slice)) fun s10p s10l s10c =>
 Drw <|
 BIf (((s10l : Nat) : Int) != 2) (
  F13_J1 k steps_1p steps_1l steps_1c l_2p l_2l l_2c ⟨n3, 0, none⟩ true) (
  NN s10p fun a55 =>
  Req (0 ≤ (1 : Int) ∧ (1 : Int) < ((s10l : Nat) : Int)) <|
  LoadT (.int .i64) (a55.add ((1 : Int).toNat * 3)) fun x56 =>
  BIf (x56 != 1) (
   F13_J1 k steps_1p steps_1l steps_1c l_2p l_2l l_2c ⟨n3, 0, none⟩ true) (
   NN s10p fun a57 =>
   Req (0 ≤ (1 : Int) ∧ (1 : Int) < ((s10l : Nat) : Int)) <|
   LoadT .slice ((a57.add ((1 : Int).toNat * 3)).add 1) fun s58p s58l s58c =>
   BIf (((s58l : Nat) : Int) != 2) (
    F13_J1 k steps_1p steps_1l steps_1c l_2p l_2l l_2c ⟨n3, 0, none⟩ true) (
    NN s10p fun a59 =>
    Req (0 ≤ (1 : Int) ∧ (1 : Int) < ((s10l : Nat) : Int)) <|
    LoadT .slice ((a59.add ((1 : Int).toNat * 3)).add 2) fun s60p s60l s60c =>
    RawT Go.Proofs.Try.prog (Instr.buildSlice 26 2 [(0, .bool true), (1, .bool false)].toArray) (.s (.one .slice)) fun s61p s61l s61c =>
    Chk1 ((a59.add ((1 : Int).toNat * 3)).add 2) (.slice s60p s60l s60c) <|
    Chk1 ((a57.add ((1 : Int).toNat * 3)).add 1) (.slice s58p s58l s58c) <|
    Chk1 (a55.add ((1 : Int).toNat * 3)) (.int .i64 x56) <|
    CallT Go.Proofs.Try.prog 14 [.slice s60p s60l s60c, .slice s61p s61l s61c] (.s (.one .bool)) fun b62 =>
    Chk1 ((a57.add ((1 : Int).toNat * 3)).add 1) (.slice s58p s58l s58c) <|
    Chk1 (a55.add ((1 : Int).toNat * 3)) (.int .i64 x56) <|
    BIf (!b62) (
     F13_J1 k steps_1p steps_1l steps_1c l_2p l_2l l_2c ⟨n3, 0, none⟩ true) (
     NN s10p fun a63 =>
     Req (0 ≤ (1 : Int) ∧ (1 : Int) < ((s10l : Nat) : Int)) <|
     LoadT .slice ((a63.add ((1 : Int).toNat * 3)).add 1) fun s64p s64l s64c =>
     NN s64p fun a65 =>
     Req (0 ≤ (0 : Int) ∧ (0 : Int) < ((s64l : Nat) : Int)) <|
     LoadT (.int .i64) ((a65.add ((0 : Int).toNat * 2)).add 0) fun x66 =>
     LoadT (.int .i64) ((a65.add ((0 : Int).toNat * 2)).add 1) fun x67 =>
     LoadT (.int .i64) ⟨n4, 0, none⟩ fun x68 =>
     LoadT (.int .i64) ⟨n4, 1, none⟩ fun x69 =>
     RawS Go.Proofs.Try.prog (binS .neq 40 (.tmp 56) (.tmp 57) (.agg #[.int .i64 x66, .int .i64 x67]) (.agg #[.int .i64 x68, .int .i64 x69])) (.s (.one .bool)) fun b70 =>
     Chk1 ((a63.add ((1 : Int).toNat * 3)).add 1) (.slice s64p s64l s64c) <|
     Chk1 ((a59.add ((1 : Int).toNat * 3)).add 2) (.slice s60p s60l s60c) <|
     Chk1 ((a57.add ((1 : Int).toNat * 3)).add 1) (.slice s58p s58l s58c) <|
     Chk1 (a55.add ((1 : Int).toNat * 3)) (.int .i64 x56) <|
     F13_J1 k steps_1p steps_1l steps_1c l_2p l_2l l_2c ⟨n3, 0, none⟩ b70))))
theorem F13_eq (k : Value → W) (steps_1p : Option Addr) (steps_1l : Nat) (steps_1c : Nat) (l_2p : Option Addr) (l_2l : Nat) (l_2c : Nat) : compF Go.Proofs.Try.prog Go.Proofs.Try.f13 [(7, [(0, .slice), (1, .slice), (4, .addr), (8, .slice), (61, .slice), (62, (.int .i64)), (63, (.int .i64))])] (Go.Proofs.Try.f13.body.getD .skip) [.slice steps_1p steps_1l steps_1c, .slice l_2p l_2l l_2c] k = F13 k steps_1p steps_1l steps_1c l_2p l_2l l_2c := by kernel_rfl
theorem F13_calls {steps_1p : Option Addr} {steps_1l : Nat} {steps_1c : Nat} {l_2p : Option Addr} {l_2l : Nat} {l_2c : Nat} {w : World} {R : Ending → World → Prop} (h : F13 (fun v w => R (.returned v) w) steps_1p steps_1l steps_1c l_2p l_2l l_2c w) : Calls Go.Proofs.Try.prog 13 #[.slice steps_1p steps_1l steps_1c, .slice l_2p l_2l l_2c] w R :=
  calls_of_compF noNum follows [(7, [(0, .slice), (1, .slice), (4, .addr), (8, .slice), (61, .slice), (62, (.int .i64)), (63, (.int .i64))])] (f := 13) (fn := Go.Proofs.Try.f13) (body := Go.Proofs.Try.f13.body.getD .skip) (args := [.slice steps_1p steps_1l steps_1c, .slice l_2p l_2l l_2c]) rfl rfl (Nat.le_of_ble_eq_true rfl) ((congrFun (F13_eq _ steps_1p steps_1l steps_1c l_2p l_2l l_2c) w).mpr h)
theorem F13_call {steps_1p : Option Addr} {steps_1l : Nat} {steps_1c : Nat} {l_2p : Option Addr} {l_2l : Nat} {l_2c : Nat} {w : World} {g : Fn W (RTy.leaves (.tup [(.agg [(.int .i64), .slice, .slice]), (.one .bool)]))} (h : F13 (fun v => Back (.tup [(.agg [(.int .i64), .slice, .slice]), (.one .bool)]) g (.returned v)) steps_1p steps_1l steps_1c l_2p l_2l l_2c w) : CallT Go.Proofs.Try.prog 13 [.slice steps_1p steps_1l steps_1c, .slice l_2p l_2l l_2c] (.tup [(.agg [(.int .i64), .slice, .slice]), (.one .bool)]) g w := F13_calls h

/-! ## laws.FnAVMirror -/
def F4_L1 (k : Value → W) (again11 : Int → Option Addr → Nat → Nat → Option Addr → Nat → Nat → Option Addr → Nat → Nat → Int → Int → W) (many_5 : Int) (own_6p : Option Addr) (own_6l : Nat) (own_6c : Nat) (mirror_7p : Option Addr) (mirror_7l : Nat) (mirror_7c : Nat) (s8p : Option Addr) (s8l : Nat) (s8c : Nat) (x9 : Int) (x10 : Int) : W :=
 BIf (decide (x10 < x9)) (
  NN s8p fun a12 =>
  Req (0 ≤ x10 ∧ x10 < ((s8l : Nat) : Int)) <|
  LoadT (.int .i64) ((a12.add (x10.toNat * 2)).add 0) fun x13 =>
  LoadT (.int .i64) ((a12.add (x10.toNat * 2)).add 1) fun x14 =>
  New [.int .i64 0, .int .i64 0] 40 fun n15 =>
  Store1 ⟨n15, 0, none⟩ (.int .i64 x13) <|
  Store1 ⟨n15, 1, none⟩ (.int .i64 x14) <|
  LoadT (.int .i64) ⟨n15, 0, none⟩ fun x16 =>
  LoadT (.int .i64) ⟨n15, 1, none⟩ fun x17 =>
  RawT Go.Proofs.Try.prog (Instr.buildSlice 37 1 [(0, .agg #[.int .i64 (subI .i64 (-1) x16), .int .i64 x17])].toArray) (.s (.one .slice)) fun s18p s18l s18c =>
  NextT Go.Proofs.Try.prog (builtin .append #[37, 37] 37 [false, false].toArray [.slice mirror_7p mirror_7l mirror_7c, .slice s18p s18l s18c].toArray) (.s (.one .slice)) fun s19p s19l s19c =>
  again11 many_5 own_6p own_6l own_6c s19p s19l s19c s8p s8l s8c x9 (addI .i64 x10 1)) (
  Req (((own_6l : Nat) : Int) ≠ (0 : Int)) <|
  Bind (addI .i64 1 (remI (IntKind.wrap .i64 many_5) ((own_6l : Nat) : Int)) : Int) fun n_20 =>
  Req (0 ≤ n_20 ∧ n_20 ≤ ((own_6c : Nat) : Int)) <|
  RawT Go.Proofs.Try.prog (Instr.buildSlice 47 2 [(0, .agg #[.int .i64 1, .int .i64 0, .slice own_6p own_6l own_6c]), (1, .agg #[.int .i64 2, .int .i64 1, .slice (sliceA own_6p 0 own_6c 2) (n_20.toNat - 0) (own_6c - 0)])].toArray) (.s (.one .slice)) fun s21p s21l s21c =>
  CallT Go.Proofs.Try.prog 13 [.slice s21p s21l s21c, .slice own_6p own_6l own_6c] (.tup [(.agg [(.int .i64), .slice, .slice]), (.one .bool)]) fun x22 s23p s23l s23c s24p s24l s24c b25 =>
  New [.int .i64 0, .slice none 0 0, .slice none 0 0] 42 fun n26 =>
  Store1 ⟨n26, 0, none⟩ (.int .i64 x22) <|
  Store1 ⟨n26, 1, none⟩ (.slice s23p s23l s23c) <|
  Store1 ⟨n26, 2, none⟩ (.slice s24p s24l s24c) <|
  Req (0 ≤ n_20 ∧ n_20 ≤ ((mirror_7c : Nat) : Int)) <|
  RawT Go.Proofs.Try.prog (Instr.buildSlice 47 2 [(0, .agg #[.int .i64 1, .int .i64 0, .slice mirror_7p mirror_7l mirror_7c]), (1, .agg #[.int .i64 2, .int .i64 1, .slice (sliceA mirror_7p 0 mirror_7c 2) (n_20.toNat - 0) (mirror_7c - 0)])].toArray) (.s (.one .slice)) fun s27p s27l s27c =>
  CallT Go.Proofs.Try.prog 13 [.slice s27p s27l s27c, .slice mirror_7p mirror_7l mirror_7c] (.tup [(.agg [(.int .i64), .slice, .slice]), (.one .bool)]) fun x28 s29p s29l s29c s30p s30l s30c b31 =>
  New [.int .i64 0, .slice none 0 0, .slice none 0 0] 42 fun n32 =>
  Store1 ⟨n32, 0, none⟩ (.int .i64 x28) <|
  Store1 ⟨n32, 1, none⟩ (.slice s29p s29l s29c) <|
  Store1 ⟨n32, 2, none⟩ (.slice s30p s30l s30c) <|
  BIf b25 (
   BIf b31 (
    LoadT (.int .i64) ⟨n26, 0, none⟩ fun x33 =>
    LoadT (.int .i64) ⟨n32, 0, none⟩ fun x34 =>
    BIf (x33 == x34) (
     LoadT .slice ⟨n26, 2, none⟩ fun s35p s35l s35c =>
     LoadT .slice ⟨n32, 2, none⟩ fun s36p s36l s36c =>
     CallT Go.Proofs.Try.prog 14 [.slice s35p s35l s35c, .slice s36p s36l s36c] (.s (.one .bool)) fun b37 =>
     BIf b37 (
      LoadT (.int .i64) ⟨n26, 0, none⟩ fun x38 =>
      Bind (x38 == (subI .i64 ((own_6l : Nat) : Int) n_20)) fun y39 =>
      k (.bool y39)) (
      k (.bool false))) (
     k (.bool false))) (
    k (.bool false))) (
   k (.bool false)))
theorem F4_L1_rule {k : Value → W} (I : Int → Option Addr → Nat → Nat → Option Addr → Nat → Nat → Option Addr → Nat → Nat → Int → Int → W) (μ : Int → Option Addr → Nat → Nat → Option Addr → Nat → Nat → Option Addr → Nat → Nat → Int → Int → World → Nat)
  (hr : ∀ (many_5 : Int) (own_6p : Option Addr) (own_6l : Nat) (own_6c : Nat) (mirror_7p : Option Addr) (mirror_7l : Nat) (mirror_7c : Nat) (s8p : Option Addr) (s8l : Nat) (s8c : Nat) (x9 : Int) (x10 : Int) (w : World), I many_5 own_6p own_6l own_6c mirror_7p mirror_7l mirror_7c s8p s8l s8c x9 x10 w → F4_L1 k (fun many_5' own_6p' own_6l' own_6c' mirror_7p' mirror_7l' mirror_7c' s8p' s8l' s8c' x9' x10' w' => I many_5' own_6p' own_6l' own_6c' mirror_7p' mirror_7l' mirror_7c' s8p' s8l' s8c' x9' x10' w' ∧ μ many_5' own_6p' own_6l' own_6c' mirror_7p' mirror_7l' mirror_7c' s8p' s8l' s8c' x9' x10' w' < μ many_5 own_6p own_6l own_6c mirror_7p mirror_7l mirror_7c s8p s8l s8c x9 x10 w) many_5 own_6p own_6l own_6c mirror_7p mirror_7l mirror_7c s8p s8l s8c x9 x10 w)
  {w : World} {many_5 : Int} {own_6p : Option Addr} {own_6l : Nat} {own_6c : Nat} {mirror_7p : Option Addr} {mirror_7l : Nat} {mirror_7c : Nat} {s8p : Option Addr} {s8l : Nat} {s8c : Nat} {x9 : Int} {x10 : Int} (h : I many_5 own_6p own_6l own_6c mirror_7p mirror_7l mirror_7c s8p s8l s8c x9 x10 w) : Loop [(.int .u8), .slice, .slice, .slice, (.int .i64), (.int .i64)] (F4_L1 k) many_5 own_6p own_6l own_6c mirror_7p mirror_7l mirror_7c s8p s8l s8c x9 x10 w :=
  Loop_intro (ts := [(.int .u8), .slice, .slice, .slice, (.int .i64), (.int .i64)]) (s := (many_5, (own_6p, own_6l, own_6c), (mirror_7p, mirror_7l, mirror_7c), (s8p, s8l, s8c), x9, x10, ())) (fun s w => I s.1 s.2.1.1 s.2.1.2.1 s.2.1.2.2 s.2.2.1.1 s.2.2.1.2.1 s.2.2.1.2.2 s.2.2.2.1.1 s.2.2.2.1.2.1 s.2.2.2.1.2.2 s.2.2.2.2.1 s.2.2.2.2.2.1 w) (fun s w => μ s.1 s.2.1.1 s.2.1.2.1 s.2.1.2.2 s.2.2.1.1 s.2.2.1.2.1 s.2.2.1.2.2 s.2.2.2.1.1 s.2.2.2.1.2.1 s.2.2.2.1.2.2 s.2.2.2.2.1 s.2.2.2.2.2.1 w) h (fun s w h => hr s.1 s.2.1.1 s.2.1.2.1 s.2.1.2.2 s.2.2.1.1 s.2.2.1.2.1 s.2.2.1.2.2 s.2.2.2.1.1 s.2.2.2.1.2.1 s.2.2.2.1.2.2 s.2.2.2.2.1 s.2.2.2.2.2.1 w h)
def F4 (k : Value → W) (l_1p : Option Addr) (l_1l : Nat) (l_1c : Nat) (many_2 : Int) : W :=
 BIf (decide (((l_1l : Nat) : Int) > 2147483647)) (
  k (.bool true)) (
  CallT Go.Proofs.Try.prog 7 [.slice l_1p l_1l l_1c] (.s (.one .bool)) fun b3 =>
  BIf (!b3) (
   k (.bool true)) (
   CallT Go.Proofs.Try.prog 12 [.slice l_1p l_1l l_1c, .int .i64 0] (.s (.one .slice)) fun s4p s4l s4c =>
   Loop [(.int .u8), .slice, .slice, .slice, (.int .i64), (.int .i64)] (F4_L1 k) many_2 s4p s4l s4c none 0 0 s4p s4l s4c ((s4l : Nat) : Int) 0))
theorem F4_eq (k : Value → W) (l_1p : Option Addr) (l_1l : Nat) (l_1c : Nat) (many_2 : Int) : compF Go.Proofs.Try.prog Go.Proofs.Try.f4 [(8, [(1, (.int .u8)), (5, .slice), (6, .slice), (22, .slice), (23, (.int .i64)), (24, (.int .i64))])] (Go.Proofs.Try.f4.body.getD .skip) [.slice l_1p l_1l l_1c, .int .u8 many_2] k = F4 k l_1p l_1l l_1c many_2 := by kernel_rfl
theorem F4_calls {l_1p : Option Addr} {l_1l : Nat} {l_1c : Nat} {many_2 : Int} {w : World} {R : Ending → World → Prop} (h : F4 (fun v w => R (.returned v) w) l_1p l_1l l_1c many_2 w) : Calls Go.Proofs.Try.prog 4 #[.slice l_1p l_1l l_1c, .int .u8 many_2] w R :=
  calls_of_compF noNum follows [(8, [(1, (.int .u8)), (5, .slice), (6, .slice), (22, .slice), (23, (.int .i64)), (24, (.int .i64))])] (f := 4) (fn := Go.Proofs.Try.f4) (body := Go.Proofs.Try.f4.body.getD .skip) (args := [.slice l_1p l_1l l_1c, .int .u8 many_2]) rfl rfl (Nat.le_of_ble_eq_true rfl) ((congrFun (F4_eq _ l_1p l_1l l_1c many_2) w).mpr h)
theorem F4_call {l_1p : Option Addr} {l_1l : Nat} {l_1c : Nat} {many_2 : Int} {w : World} {g : Fn W (RTy.leaves (.s (.one .bool)))} (h : F4 (fun v => Back (.s (.one .bool)) g (.returned v)) l_1p l_1l l_1c many_2 w) : CallT Go.Proofs.Try.prog 4 [.slice l_1p l_1l l_1c, .int .u8 many_2] (.s (.one .bool)) g w := F4_calls h

/-! ## impl.AVEntry] -/
def F15 (k : Value → W) (s_1p : Option Addr) (s_1l : Nat) (s_1c : Nat) : W :=
 BIf s_1p.isNone (
  k (.slice none 0 0)) (
  RawT Go.Proofs.Try.prog (Instr.buildSlice 37 0 [].toArray) (.s (.one .slice)) fun s2p s2l s2c =>
  NextT Go.Proofs.Try.prog (builtin .append #[37, 37] 37 [false, false].toArray [.slice s2p s2l s2c, .slice s_1p s_1l s_1c].toArray) (.s (.one .slice)) fun s3p s3l s3c =>
  k (.slice s3p s3l s3c))
theorem F15_eq (k : Value → W) (s_1p : Option Addr) (s_1l : Nat) (s_1c : Nat) : compF Go.Proofs.Try.prog Go.Proofs.Try.f15 [] (Go.Proofs.Try.f15.body.getD .skip) [.slice s_1p s_1l s_1c] k = F15 k s_1p s_1l s_1c := by kernel_rfl
theorem F15_calls {s_1p : Option Addr} {s_1l : Nat} {s_1c : Nat} {w : World} {R : Ending → World → Prop} (h : F15 (fun v w => R (.returned v) w) s_1p s_1l s_1c w) : Calls Go.Proofs.Try.prog 15 #[.slice s_1p s_1l s_1c] w R :=
  calls_of_compF noNum follows [] (f := 15) (fn := Go.Proofs.Try.f15) (body := Go.Proofs.Try.f15.body.getD .skip) (args := [.slice s_1p s_1l s_1c]) rfl rfl (Nat.le_of_ble_eq_true rfl) ((congrFun (F15_eq _ s_1p s_1l s_1c) w).mpr h)
theorem F15_call {s_1p : Option Addr} {s_1l : Nat} {s_1c : Nat} {w : World} {g : Fn W (RTy.leaves (.s (.one .slice)))} (h : F15 (fun v => Back (.s (.one .slice)) g (.returned v)) s_1p s_1l s_1c w) : CallT Go.Proofs.Try.prog 15 [.slice s_1p s_1l s_1c] (.s (.one .slice)) g w := F15_calls h

/-! ## impl.AVKeep -/
def F16_L2 (k : Value → W) (again20 : Option Addr → Nat → Nat → Option Addr → Nat → Nat → Option Addr → Nat → Nat → Int → Int → W) (asked_15p : Option Addr) (asked_15l : Nat) (asked_15c : Nat) (out_16p : Option Addr) (out_16l : Nat) (out_16c : Nat) (s17p : Option Addr) (s17l : Nat) (s17c : Nat) (x18 : Int) (x19 : Int) : W :=
 BIf (decide (x19 < x18)) (
  NN s17p fun a21 =>
  Req (0 ≤ x19 ∧ x19 < ((s17l : Nat) : Int)) <|
  LoadT .ptr (a21.add x19.toNat) fun p22 =>
  CallT Go.Proofs.Try.prog 29 [.slice asked_15p asked_15l asked_15c] (.s (.one .slice)) fun s23p s23l s23c =>
  CallT Go.Proofs.Try.prog 28 [.pointer p22, .slice s23p s23l s23c] (.s (.one .slice)) fun s24p s24l s24c =>
  CallT Go.Proofs.Try.prog 27 [.pointer p22, .slice s24p s24l s24c] (.s (.agg [(.int .i64), .slice, .slice])) fun x25 s26p s26l s26c s27p s27l s27c =>
  RawT Go.Proofs.Try.prog (Instr.buildSlice 51 1 [(0, .agg #[.int .i64 x25, .slice s26p s26l s26c, .slice s27p s27l s27c])].toArray) (.s (.one .slice)) fun s28p s28l s28c =>
  NextT Go.Proofs.Try.prog (builtin .append #[51, 51] 51 [false, false].toArray [.slice out_16p out_16l out_16c, .slice s28p s28l s28c].toArray) (.s (.one .slice)) fun s29p s29l s29c =>
  again20 asked_15p asked_15l asked_15c s29p s29l s29c s17p s17l s17c x18 (addI .i64 x19 1)) (
  k (.slice out_16p out_16l out_16c))
theorem F16_L2_rule {k : Value → W} (I : Option Addr → Nat → Nat → Option Addr → Nat → Nat → Option Addr → Nat → Nat → Int → Int → W) (μ : Option Addr → Nat → Nat → Option Addr → Nat → Nat → Option Addr → Nat → Nat → Int → Int → World → Nat)
  (hr : ∀ (asked_15p : Option Addr) (asked_15l : Nat) (asked_15c : Nat) (out_16p : Option Addr) (out_16l : Nat) (out_16c : Nat) (s17p : Option Addr) (s17l : Nat) (s17c : Nat) (x18 : Int) (x19 : Int) (w : World), I asked_15p asked_15l asked_15c out_16p out_16l out_16c s17p s17l s17c x18 x19 w → F16_L2 k (fun asked_15p' asked_15l' asked_15c' out_16p' out_16l' out_16c' s17p' s17l' s17c' x18' x19' w' => I asked_15p' asked_15l' asked_15c' out_16p' out_16l' out_16c' s17p' s17l' s17c' x18' x19' w' ∧ μ asked_15p' asked_15l' asked_15c' out_16p' out_16l' out_16c' s17p' s17l' s17c' x18' x19' w' < μ asked_15p asked_15l asked_15c out_16p out_16l out_16c s17p s17l s17c x18 x19 w) asked_15p asked_15l asked_15c out_16p out_16l out_16c s17p s17l s17c x18 x19 w)
  {w : World} {asked_15p : Option Addr} {asked_15l : Nat} {asked_15c : Nat} {out_16p : Option Addr} {out_16l : Nat} {out_16c : Nat} {s17p : Option Addr} {s17l : Nat} {s17c : Nat} {x18 : Int} {x19 : Int} (h : I asked_15p asked_15l asked_15c out_16p out_16l out_16c s17p s17l s17c x18 x19 w) : Loop [.slice, .slice, .slice, (.int .i64), (.int .i64)] (F16_L2 k) asked_15p asked_15l asked_15c out_16p out_16l out_16c s17p s17l s17c x18 x19 w :=
  Loop_intro (ts := [.slice, .slice, .slice, (.int .i64), (.int .i64)]) (s := ((asked_15p, asked_15l, asked_15c), (out_16p, out_16l, out_16c), (s17p, s17l, s17c), x18, x19, ())) (fun s w => I s.1.1 s.1.2.1 s.1.2.2 s.2.1.1 s.2.1.2.1 s.2.1.2.2 s.2.2.1.1 s.2.2.1.2.1 s.2.2.1.2.2 s.2.2.2.1 s.2.2.2.2.1 w) (fun s w => μ s.1.1 s.1.2.1 s.1.2.2 s.2.1.1 s.2.1.2.1 s.2.1.2.2 s.2.2.1.1 s.2.2.1.2.1 s.2.2.1.2.2 s.2.2.2.1 s.2.2.2.2.1 w) h (fun s w h => hr s.1.1 s.1.2.1 s.1.2.2 s.2.1.1 s.2.1.2.1 s.2.1.2.2 s.2.2.1.1 s.2.2.1.2.1 s.2.2.1.2.2 s.2.2.2.1 s.2.2.2.2.1 w h)
def F16_L1 (k : Value → W) (again10 : Option Addr → Nat → Nat → Option Addr → Nat → Nat → Option Addr → Nat → Nat → Int → Int → W) (l_5p : Option Addr) (l_5l : Nat) (l_5c : Nat) (asked_6p : Option Addr) (asked_6l : Nat) (asked_6c : Nat) (s7p : Option Addr) (s7l : Nat) (s7c : Nat) (x8 : Int) (x9 : Int) : W :=
 BIf (decide (x9 < x8)) (
  NN s7p fun a11 =>
  Req (0 ≤ x9 ∧ x9 < ((s7l : Nat) : Int)) <|
  LoadT (.int .i64) (a11.add x9.toNat) fun x12 =>
  RawT Go.Proofs.Try.prog (Instr.buildSlice 37 1 [(0, .agg #[.int .i64 x12, .int .i64 0])].toArray) (.s (.one .slice)) fun s13p s13l s13c =>
  NextT Go.Proofs.Try.prog (builtin .append #[37, 37] 37 [false, false].toArray [.slice asked_6p asked_6l asked_6c, .slice s13p s13l s13c].toArray) (.s (.one .slice)) fun s14p s14l s14c =>
  again10 l_5p l_5l l_5c s14p s14l s14c s7p s7l s7c x8 (addI .i64 x9 1)) (
  Loop [.slice, .slice, .slice, (.int .i64), (.int .i64)] (F16_L2 k) asked_6p asked_6l asked_6c none 0 0 l_5p l_5l l_5c ((l_5l : Nat) : Int) 0)
theorem F16_L1_rule {k : Value → W} (I : Option Addr → Nat → Nat → Option Addr → Nat → Nat → Option Addr → Nat → Nat → Int → Int → W) (μ : Option Addr → Nat → Nat → Option Addr → Nat → Nat → Option Addr → Nat → Nat → Int → Int → World → Nat)
  (hr : ∀ (l_5p : Option Addr) (l_5l : Nat) (l_5c : Nat) (asked_6p : Option Addr) (asked_6l : Nat) (asked_6c : Nat) (s7p : Option Addr) (s7l : Nat) (s7c : Nat) (x8 : Int) (x9 : Int) (w : World), I l_5p l_5l l_5c asked_6p asked_6l asked_6c s7p s7l s7c x8 x9 w → F16_L1 k (fun l_5p' l_5l' l_5c' asked_6p' asked_6l' asked_6c' s7p' s7l' s7c' x8' x9' w' => I l_5p' l_5l' l_5c' asked_6p' asked_6l' asked_6c' s7p' s7l' s7c' x8' x9' w' ∧ μ l_5p' l_5l' l_5c' asked_6p' asked_6l' asked_6c' s7p' s7l' s7c' x8' x9' w' < μ l_5p l_5l l_5c asked_6p asked_6l asked_6c s7p s7l s7c x8 x9 w) l_5p l_5l l_5c asked_6p asked_6l asked_6c s7p s7l s7c x8 x9 w)
  {w : World} {l_5p : Option Addr} {l_5l : Nat} {l_5c : Nat} {asked_6p : Option Addr} {asked_6l : Nat} {asked_6c : Nat} {s7p : Option Addr} {s7l : Nat} {s7c : Nat} {x8 : Int} {x9 : Int} (h : I l_5p l_5l l_5c asked_6p asked_6l asked_6c s7p s7l s7c x8 x9 w) : Loop [.slice, .slice, .slice, (.int .i64), (.int .i64)] (F16_L1 k) l_5p l_5l l_5c asked_6p asked_6l asked_6c s7p s7l s7c x8 x9 w :=
  Loop_intro (ts := [.slice, .slice, .slice, (.int .i64), (.int .i64)]) (s := ((l_5p, l_5l, l_5c), (asked_6p, asked_6l, asked_6c), (s7p, s7l, s7c), x8, x9, ())) (fun s w => I s.1.1 s.1.2.1 s.1.2.2 s.2.1.1 s.2.1.2.1 s.2.1.2.2 s.2.2.1.1 s.2.2.1.2.1 s.2.2.1.2.2 s.2.2.2.1 s.2.2.2.2.1 w) (fun s w => μ s.1.1 s.1.2.1 s.1.2.2 s.2.1.1 s.2.1.2.1 s.2.1.2.2 s.2.2.1.1 s.2.2.1.2.1 s.2.2.1.2.2 s.2.2.2.1 s.2.2.2.2.1 w) h (fun s w h => hr s.1.1 s.1.2.1 s.1.2.2 s.2.1.1 s.2.1.2.1 s.2.1.2.2 s.2.2.1.1 s.2.2.1.2.1 s.2.2.1.2.2 s.2.2.2.1 s.2.2.2.2.1 w h)
def F16 (k : Value → W) (steps_1p : Option Addr) (steps_1l : Nat) (steps_1c : Nat) (keys_2p : Option Addr) (keys_2l : Nat) (keys_2c : Nat) : W :=
 CallT Go.Proofs.Try.prog 26 [.slice steps_1p steps_1l steps_1c] (.tup [(.one .slice), (.one .slice)]) fun s3p s3l s3c s4p s4l s4c =>
 Loop [.slice, .slice, .slice, (.int .i64), (.int .i64)] (F16_L1 k) s3p s3l s3c none 0 0 keys_2p keys_2l keys_2c ((keys_2l : Nat) : Int) 0
theorem F16_eq (k : Value → W) (steps_1p : Option Addr) (steps_1l : Nat) (steps_1c : Nat) (keys_2p : Option Addr) (keys_2l : Nat) (keys_2c : Nat) : compF Go.Proofs.Try.prog Go.Proofs.Try.f16 [(4, [(5, .slice), (7, .slice), (18, .slice), (19, (.int .i64)), (20, (.int .i64))]), (10, [(7, .slice), (10, .slice), (30, .slice), (31, (.int .i64)), (32, (.int .i64))])] (Go.Proofs.Try.f16.body.getD .skip) [.slice steps_1p steps_1l steps_1c, .slice keys_2p keys_2l keys_2c] k = F16 k steps_1p steps_1l steps_1c keys_2p keys_2l keys_2c := by kernel_rfl
theorem F16_calls {steps_1p : Option Addr} {steps_1l : Nat} {steps_1c : Nat} {keys_2p : Option Addr} {keys_2l : Nat} {keys_2c : Nat} {w : World} {R : Ending → World → Prop} (h : F16 (fun v w => R (.returned v) w) steps_1p steps_1l steps_1c keys_2p keys_2l keys_2c w) : Calls Go.Proofs.Try.prog 16 #[.slice steps_1p steps_1l steps_1c, .slice keys_2p keys_2l keys_2c] w R :=
  calls_of_compF noNum follows [(4, [(5, .slice), (7, .slice), (18, .slice), (19, (.int .i64)), (20, (.int .i64))]), (10, [(7, .slice), (10, .slice), (30, .slice), (31, (.int .i64)), (32, (.int .i64))])] (f := 16) (fn := Go.Proofs.Try.f16) (body := Go.Proofs.Try.f16.body.getD .skip) (args := [.slice steps_1p steps_1l steps_1c, .slice keys_2p keys_2l keys_2c]) rfl rfl (Nat.le_of_ble_eq_true rfl) ((congrFun (F16_eq _ steps_1p steps_1l steps_1c keys_2p keys_2l keys_2c) w).mpr h)
theorem F16_call {steps_1p : Option Addr} {steps_1l : Nat} {steps_1c : Nat} {keys_2p : Option Addr} {keys_2l : Nat} {keys_2c : Nat} {w : World} {g : Fn W (RTy.leaves (.s (.one .slice)))} (h : F16 (fun v => Back (.s (.one .slice)) g (.returned v)) steps_1p steps_1l steps_1c keys_2p keys_2l keys_2c w) : CallT Go.Proofs.Try.prog 16 [.slice steps_1p steps_1l steps_1c, .slice keys_2p keys_2l keys_2c] (.s (.one .slice)) g w := F16_calls h

/-! ## impl.AVEntry] -/
def F18_L1 (k : Value → W) (again7 : Option Addr → Nat → Nat → Option Addr → Nat → Nat → Int → Int → W) (s1_3p : Option Addr) (s1_3l : Nat) (s1_3c : Nat) (s2_4p : Option Addr) (s2_4l : Nat) (s2_4c : Nat) (x5 : Int) (x6 : Int) : W :=
 BIf (decide (x6 < x5)) (
  Drw <|
  NN s1_3p fun a8 =>
  Req (0 ≤ x6 ∧ x6 < ((s1_3l : Nat) : Int)) <|
  LoadT (.int .i64) ((a8.add (x6.toNat * 2)).add 0) fun x9 =>
  LoadT (.int .i64) ((a8.add (x6.toNat * 2)).add 1) fun x10 =>
  NN s2_4p fun a11 =>
  Req (0 ≤ x6 ∧ x6 < ((s2_4l : Nat) : Int)) <|
  LoadT (.int .i64) ((a11.add (x6.toNat * 2)).add 0) fun x12 =>
  LoadT (.int .i64) ((a11.add (x6.toNat * 2)).add 1) fun x13 =>
  RawS Go.Proofs.Try.prog (binS .neq 40 (.tmp 19) (.tmp 23) (.agg #[.int .i64 x9, .int .i64 x10]) (.agg #[.int .i64 x12, .int .i64 x13])) (.s (.one .bool)) fun b14 =>
  BIf b14 (
   k (.bool false)) (
   again7 s1_3p s1_3l s1_3c s2_4p s2_4l s2_4c x5 (addI .i64 x6 1))) (
  k (.bool true))
theorem F18_L1_rule {k : Value → W} (I : Option Addr → Nat → Nat → Option Addr → Nat → Nat → Int → Int → W) (μ : Option Addr → Nat → Nat → Option Addr → Nat → Nat → Int → Int → World → Nat)
  (hr : ∀ (s1_3p : Option Addr) (s1_3l : Nat) (s1_3c : Nat) (s2_4p : Option Addr) (s2_4l : Nat) (s2_4c : Nat) (x5 : Int) (x6 : Int) (w : World), I s1_3p s1_3l s1_3c s2_4p s2_4l s2_4c x5 x6 w → F18_L1 k (fun s1_3p' s1_3l' s1_3c' s2_4p' s2_4l' s2_4c' x5' x6' w' => I s1_3p' s1_3l' s1_3c' s2_4p' s2_4l' s2_4c' x5' x6' w' ∧ μ s1_3p' s1_3l' s1_3c' s2_4p' s2_4l' s2_4c' x5' x6' w' < μ s1_3p s1_3l s1_3c s2_4p s2_4l s2_4c x5 x6 w) s1_3p s1_3l s1_3c s2_4p s2_4l s2_4c x5 x6 w)
  {w : World} {s1_3p : Option Addr} {s1_3l : Nat} {s1_3c : Nat} {s2_4p : Option Addr} {s2_4l : Nat} {s2_4c : Nat} {x5 : Int} {x6 : Int} (h : I s1_3p s1_3l s1_3c s2_4p s2_4l s2_4c x5 x6 w) : Loop [.slice, .slice, (.int .i64), (.int .i64)] (F18_L1 k) s1_3p s1_3l s1_3c s2_4p s2_4l s2_4c x5 x6 w :=
  Loop_intro (ts := [.slice, .slice, (.int .i64), (.int .i64)]) (s := ((s1_3p, s1_3l, s1_3c), (s2_4p, s2_4l, s2_4c), x5, x6, ())) (fun s w => I s.1.1 s.1.2.1 s.1.2.2 s.2.1.1 s.2.1.2.1 s.2.1.2.2 s.2.2.1 s.2.2.2.1 w) (fun s w => μ s.1.1 s.1.2.1 s.1.2.2 s.2.1.1 s.2.1.2.1 s.2.1.2.2 s.2.2.1 s.2.2.2.1 w) h (fun s w h => hr s.1.1 s.1.2.1 s.1.2.2 s.2.1.1 s.2.1.2.1 s.2.1.2.2 s.2.2.1 s.2.2.2.1 w h)
def F18 (k : Value → W) (s1_1p : Option Addr) (s1_1l : Nat) (s1_1c : Nat) (s2_2p : Option Addr) (s2_2l : Nat) (s2_2c : Nat) : W :=
 BIf (((s1_1l : Nat) : Int) != ((s2_2l : Nat) : Int)) (
  k (.bool false)) (
  Loop [.slice, .slice, (.int .i64), (.int .i64)] (F18_L1 k) s1_1p s1_1l s1_1c s2_2p s2_2l s2_2c ((s1_1l : Nat) : Int) 0)
theorem F18_eq (k : Value → W) (s1_1p : Option Addr) (s1_1l : Nat) (s1_1c : Nat) (s2_2p : Option Addr) (s2_2l : Nat) (s2_2c : Nat) : compF Go.Proofs.Try.prog Go.Proofs.Try.f18 [(4, [(0, .slice), (1, .slice), (12, (.int .i64)), (13, (.int .i64))])] (Go.Proofs.Try.f18.body.getD .skip) [.slice s1_1p s1_1l s1_1c, .slice s2_2p s2_2l s2_2c] k = F18 k s1_1p s1_1l s1_1c s2_2p s2_2l s2_2c := by kernel_rfl
theorem F18_calls {s1_1p : Option Addr} {s1_1l : Nat} {s1_1c : Nat} {s2_2p : Option Addr} {s2_2l : Nat} {s2_2c : Nat} {w : World} {R : Ending → World → Prop} (h : F18 (fun v w => R (.returned v) w) s1_1p s1_1l s1_1c s2_2p s2_2l s2_2c w) : Calls Go.Proofs.Try.prog 18 #[.slice s1_1p s1_1l s1_1c, .slice s2_2p s2_2l s2_2c] w R :=
  calls_of_compF noNum follows [(4, [(0, .slice), (1, .slice), (12, (.int .i64)), (13, (.int .i64))])] (f := 18) (fn := Go.Proofs.Try.f18) (body := Go.Proofs.Try.f18.body.getD .skip) (args := [.slice s1_1p s1_1l s1_1c, .slice s2_2p s2_2l s2_2c]) rfl rfl (Nat.le_of_ble_eq_true rfl) ((congrFun (F18_eq _ s1_1p s1_1l s1_1c s2_2p s2_2l s2_2c) w).mpr h)
theorem F18_call {s1_1p : Option Addr} {s1_1l : Nat} {s1_1c : Nat} {s2_2p : Option Addr} {s2_2l : Nat} {s2_2c : Nat} {w : World} {g : Fn W (RTy.leaves (.s (.one .bool)))} (h : F18 (fun v => Back (.s (.one .bool)) g (.returned v)) s1_1p s1_1l s1_1c s2_2p s2_2l s2_2c w) : CallT Go.Proofs.Try.prog 18 [.slice s1_1p s1_1l s1_1c, .slice s2_2p s2_2l s2_2c] (.s (.one .bool)) g w := F18_calls h

/-! ## laws.dvSame -/
def F17 (k : Value → W) (x1 : Int) (s2p : Option Addr) (s2l : Nat) (s2c : Nat) (s3p : Option Addr) (s3l : Nat) (s3c : Nat) (x4 : Int) (s5p : Option Addr) (s5l : Nat) (s5c : Nat) (s6p : Option Addr) (s6l : Nat) (s6c : Nat) : W :=
 New [.int .i64 x1, .slice s2p s2l s2c, .slice s3p s3l s3c] 42 fun n7 =>
 New [.int .i64 x4, .slice s5p s5l s5c, .slice s6p s6l s6c] 42 fun n8 =>
 LoadT (.int .i64) ⟨n7, 0, none⟩ fun x9 =>
 LoadT (.int .i64) ⟨n8, 0, none⟩ fun x10 =>
 BIf (x9 == x10) (
  LoadT .slice ⟨n7, 2, none⟩ fun s11p s11l s11c =>
  LoadT .slice ⟨n8, 2, none⟩ fun s12p s12l s12c =>
  CallT Go.Proofs.Try.prog 14 [.slice s11p s11l s11c, .slice s12p s12l s12c] (.s (.one .bool)) fun b13 =>
  BIf b13 (
   LoadT .slice ⟨n7, 1, none⟩ fun s14p s14l s14c =>
   LoadT .slice ⟨n8, 1, none⟩ fun s15p s15l s15c =>
   CallT Go.Proofs.Try.prog 18 [.slice s14p s14l s14c, .slice s15p s15l s15c] (.s (.one .bool)) fun b16 =>
   k (.bool b16)) (
   k (.bool false))) (
  k (.bool false))
theorem F17_eq (k : Value → W) (x1 : Int) (s2p : Option Addr) (s2l : Nat) (s2c : Nat) (s3p : Option Addr) (s3l : Nat) (s3c : Nat) (x4 : Int) (s5p : Option Addr) (s5l : Nat) (s5c : Nat) (s6p : Option Addr) (s6l : Nat) (s6c : Nat) : compF Go.Proofs.Try.prog Go.Proofs.Try.f17 [] (Go.Proofs.Try.f17.body.getD .skip) [.agg #[.int .i64 x1, .slice s2p s2l s2c, .slice s3p s3l s3c], .agg #[.int .i64 x4, .slice s5p s5l s5c, .slice s6p s6l s6c]] k = F17 k x1 s2p s2l s2c s3p s3l s3c x4 s5p s5l s5c s6p s6l s6c := by kernel_rfl
theorem F17_calls {x1 : Int} {s2p : Option Addr} {s2l : Nat} {s2c : Nat} {s3p : Option Addr} {s3l : Nat} {s3c : Nat} {x4 : Int} {s5p : Option Addr} {s5l : Nat} {s5c : Nat} {s6p : Option Addr} {s6l : Nat} {s6c : Nat} {w : World} {R : Ending → World → Prop} (h : F17 (fun v w => R (.returned v) w) x1 s2p s2l s2c s3p s3l s3c x4 s5p s5l s5c s6p s6l s6c w) : Calls Go.Proofs.Try.prog 17 #[.agg #[.int .i64 x1, .slice s2p s2l s2c, .slice s3p s3l s3c], .agg #[.int .i64 x4, .slice s5p s5l s5c, .slice s6p s6l s6c]] w R :=
  calls_of_compF noNum follows [] (f := 17) (fn := Go.Proofs.Try.f17) (body := Go.Proofs.Try.f17.body.getD .skip) (args := [.agg #[.int .i64 x1, .slice s2p s2l s2c, .slice s3p s3l s3c], .agg #[.int .i64 x4, .slice s5p s5l s5c, .slice s6p s6l s6c]]) rfl rfl (Nat.le_of_ble_eq_true rfl) ((congrFun (F17_eq _ x1 s2p s2l s2c s3p s3l s3c x4 s5p s5l s5c s6p s6l s6c) w).mpr h)
theorem F17_call {x1 : Int} {s2p : Option Addr} {s2l : Nat} {s2c : Nat} {s3p : Option Addr} {s3l : Nat} {s3c : Nat} {x4 : Int} {s5p : Option Addr} {s5l : Nat} {s5c : Nat} {s6p : Option Addr} {s6l : Nat} {s6c : Nat} {w : World} {g : Fn W (RTy.leaves (.s (.one .bool)))} (h : F17 (fun v => Back (.s (.one .bool)) g (.returned v)) x1 s2p s2l s2c s3p s3l s3c x4 s5p s5l s5c s6p s6l s6c w) : CallT Go.Proofs.Try.prog 17 [.agg #[.int .i64 x1, .slice s2p s2l s2c, .slice s3p s3l s3c], .agg #[.int .i64 x4, .slice s5p s5l s5c, .slice s6p s6l s6c]] (.s (.one .bool)) g w := F17_calls h

/-! ## laws.FnAVTwo -/
def F5_L1 (k : Value → W) (again20 : Option Addr → Nat → Nat → Option Addr → Nat → Nat → Option Addr → Nat → Nat → Option Addr → Nat → Nat → Option Addr → Nat → Nat → Int → Int → W) (first_13p : Option Addr) (first_13l : Nat) (first_13c : Nat) (one_14p : Option Addr) (one_14l : Nat) (one_14c : Nat) (two_15p : Option Addr) (two_15l : Nat) (two_15c : Nat) (keys_16p : Option Addr) (keys_16l : Nat) (keys_16c : Nat) (s17p : Option Addr) (s17l : Nat) (s17c : Nat) (x18 : Int) (x19 : Int) : W :=
 BIf (decide (x19 < x18)) (
  NN s17p fun a21 =>
  Req (0 ≤ x19 ∧ x19 < ((s17l : Nat) : Int)) <|
  LoadT (.int .i64) ((a21.add (x19.toNat * 2)).add 0) fun x22 =>
  LoadT (.int .i64) ((a21.add (x19.toNat * 2)).add 1) fun x23 =>
  New [.int .i64 0, .int .i64 0] 40 fun n24 =>
  Store1 ⟨n24, 0, none⟩ (.int .i64 x22) <|
  Store1 ⟨n24, 1, none⟩ (.int .i64 x23) <|
  LoadT (.int .i64) ⟨n24, 0, none⟩ fun x25 =>
  RawT Go.Proofs.Try.prog (Instr.buildSlice 24 1 [(0, .int .i64 x25)].toArray) (.s (.one .slice)) fun s26p s26l s26c =>
  NextT Go.Proofs.Try.prog (builtin .append #[24, 24] 24 [false, false].toArray [.slice keys_16p keys_16l keys_16c, .slice s26p s26l s26c].toArray) (.s (.one .slice)) fun s27p s27l s27c =>
  again20 first_13p first_13l first_13c one_14p one_14l one_14c two_15p two_15l two_15c s27p s27l s27c s17p s17l s17c x18 (addI .i64 x19 1)) (
  RawT Go.Proofs.Try.prog (Instr.buildSlice 47 3 [(0, .agg #[.int .i64 1, .int .i64 0, .slice first_13p first_13l first_13c]), (1, .agg #[.int .i64 1, .int .i64 1, .slice one_14p one_14l one_14c]), (2, .agg #[.int .i64 1, .int .i64 1, .slice two_15p two_15l two_15c])].toArray) (.s (.one .slice)) fun s28p s28l s28c =>
  CallT Go.Proofs.Try.prog 16 [.slice s28p s28l s28c, .slice keys_16p keys_16l keys_16c] (.s (.one .slice)) fun s29p s29l s29c =>
  RawT Go.Proofs.Try.prog (Instr.buildSlice 47 2 [(0, .agg #[.int .i64 1, .int .i64 0, .slice first_13p first_13l first_13c]), (1, .agg #[.int .i64 1, .int .i64 1, .slice two_15p two_15l two_15c])].toArray) (.s (.one .slice)) fun s30p s30l s30c =>
  CallT Go.Proofs.Try.prog 16 [.slice s30p s30l s30c, .slice keys_16p keys_16l keys_16c] (.s (.one .slice)) fun s31p s31l s31c =>
  BIf (((s29l : Nat) : Int) != 4) (
   k (.bool false)) (
   BIf (((s31l : Nat) : Int) != 3) (
    k (.bool false)) (
    NN s29p fun a32 =>
    Req (0 ≤ (2 : Int) ∧ (2 : Int) < ((s29l : Nat) : Int)) <|
    LoadT .slice ((a32.add ((2 : Int).toNat * 3)).add 1) fun s33p s33l s33c =>
    BIf (((s33l : Nat) : Int) != ((keys_16l : Nat) : Int)) (
     k (.bool false)) (
     NN s29p fun a34 =>
     Req (0 ≤ (1 : Int) ∧ (1 : Int) < ((s29l : Nat) : Int)) <|
     LoadT (.int .i64) (a34.add ((1 : Int).toNat * 3)) fun x35 =>
     BIf (x35 != ((first_13l : Nat) : Int)) (
      k (.bool false)) (
      NN s29p fun a36 =>
      Req (0 ≤ (0 : Int) ∧ (0 : Int) < ((s29l : Nat) : Int)) <|
      LoadT (.int .i64) (a36.add ((0 : Int).toNat * 3)) fun x37 =>
      BIf (x37 != 0) (
       k (.bool false)) (
       Drw <|
       NN s29p fun a38 =>
       Req (0 ≤ (1 : Int) ∧ (1 : Int) < ((s29l : Nat) : Int)) <|
       LoadT (.int .i64) ((a38.add ((1 : Int).toNat * 3)).add 0) fun x39 =>
       LoadT .slice ((a38.add ((1 : Int).toNat * 3)).add 1) fun s40p s40l s40c =>
       LoadT .slice ((a38.add ((1 : Int).toNat * 3)).add 2) fun s41p s41l s41c =>
       NN s31p fun a42 =>
       Req (0 ≤ (1 : Int) ∧ (1 : Int) < ((s31l : Nat) : Int)) <|
       LoadT (.int .i64) ((a42.add ((1 : Int).toNat * 3)).add 0) fun x43 =>
       LoadT .slice ((a42.add ((1 : Int).toNat * 3)).add 1) fun s44p s44l s44c =>
       LoadT .slice ((a42.add ((1 : Int).toNat * 3)).add 2) fun s45p s45l s45c =>
       CallT Go.Proofs.Try.prog 17 [.agg #[.int .i64 x39, .slice s40p s40l s40c, .slice s41p s41l s41c], .agg #[.int .i64 x43, .slice s44p s44l s44c, .slice s45p s45l s45c]] (.s (.one .bool)) fun b46 =>
       BIf b46 (
        NN s29p fun a47 =>
        Req (0 ≤ (3 : Int) ∧ (3 : Int) < ((s29l : Nat) : Int)) <|
        LoadT (.int .i64) ((a47.add ((3 : Int).toNat * 3)).add 0) fun x48 =>
        LoadT .slice ((a47.add ((3 : Int).toNat * 3)).add 1) fun s49p s49l s49c =>
        LoadT .slice ((a47.add ((3 : Int).toNat * 3)).add 2) fun s50p s50l s50c =>
        NN s31p fun a51 =>
        Req (0 ≤ (2 : Int) ∧ (2 : Int) < ((s31l : Nat) : Int)) <|
        LoadT (.int .i64) ((a51.add ((2 : Int).toNat * 3)).add 0) fun x52 =>
        LoadT .slice ((a51.add ((2 : Int).toNat * 3)).add 1) fun s53p s53l s53c =>
        LoadT .slice ((a51.add ((2 : Int).toNat * 3)).add 2) fun s54p s54l s54c =>
        CallT Go.Proofs.Try.prog 17 [.agg #[.int .i64 x48, .slice s49p s49l s49c, .slice s50p s50l s50c], .agg #[.int .i64 x52, .slice s53p s53l s53c, .slice s54p s54l s54c]] (.s (.one .bool)) fun b55 =>
        Chk1 ((a42.add ((1 : Int).toNat * 3)).add 0) (.int .i64 x43) <|
        Chk1 ((a42.add ((1 : Int).toNat * 3)).add 1) (.slice s44p s44l s44c) <|
        Chk1 ((a42.add ((1 : Int).toNat * 3)).add 2) (.slice s45p s45l s45c) <|
        Chk1 ((a38.add ((1 : Int).toNat * 3)).add 0) (.int .i64 x39) <|
        Chk1 ((a38.add ((1 : Int).toNat * 3)).add 1) (.slice s40p s40l s40c) <|
        Chk1 ((a38.add ((1 : Int).toNat * 3)).add 2) (.slice s41p s41l s41c) <|
        BIf b55 (
         NN s29p fun a56 =>
         Req (0 ≤ (2 : Int) ∧ (2 : Int) < ((s29l : Nat) : Int)) <|
         LoadT .slice ((a56.add ((2 : Int).toNat * 3)).add 1) fun s57p s57l s57c =>
         Req (0 ≤ addI .i64 ((first_13l : Nat) : Int) ((one_14l : Nat) : Int) ∧ addI .i64 ((first_13l : Nat) : Int) ((one_14l : Nat) : Int) ≤ ((s57c : Nat) : Int)) <|
         Req (0 ≤ ((first_13l : Nat) : Int) ∧ ((first_13l : Nat) : Int) ≤ (((addI .i64 ((first_13l : Nat) : Int) ((one_14l : Nat) : Int)).toNat : Nat) : Int)) <|
         CallT Go.Proofs.Try.prog 18 [.slice (sliceA s57p ((((first_13l : Nat) : Int)).toNat) s57c 2) (((addI .i64 ((first_13l : Nat) : Int) ((one_14l : Nat) : Int)).toNat) - ((((first_13l : Nat) : Int)).toNat)) (s57c - ((((first_13l : Nat) : Int)).toNat)), .slice one_14p one_14l one_14c] (.s (.one .bool)) fun b58 =>
         Chk1 ((a56.add ((2 : Int).toNat * 3)).add 1) (.slice s57p s57l s57c) <|
         Chk1 ((a51.add ((2 : Int).toNat * 3)).add 0) (.int .i64 x52) <|
         Chk1 ((a51.add ((2 : Int).toNat * 3)).add 1) (.slice s53p s53l s53c) <|
         Chk1 ((a51.add ((2 : Int).toNat * 3)).add 2) (.slice s54p s54l s54c) <|
         Chk1 ((a47.add ((3 : Int).toNat * 3)).add 0) (.int .i64 x48) <|
         Chk1 ((a47.add ((3 : Int).toNat * 3)).add 1) (.slice s49p s49l s49c) <|
         Chk1 ((a47.add ((3 : Int).toNat * 3)).add 2) (.slice s50p s50l s50c) <|
         Chk1 ((a42.add ((1 : Int).toNat * 3)).add 0) (.int .i64 x43) <|
         Chk1 ((a42.add ((1 : Int).toNat * 3)).add 1) (.slice s44p s44l s44c) <|
         Chk1 ((a42.add ((1 : Int).toNat * 3)).add 2) (.slice s45p s45l s45c) <|
         Chk1 ((a38.add ((1 : Int).toNat * 3)).add 0) (.int .i64 x39) <|
         Chk1 ((a38.add ((1 : Int).toNat * 3)).add 1) (.slice s40p s40l s40c) <|
         Chk1 ((a38.add ((1 : Int).toNat * 3)).add 2) (.slice s41p s41l s41c) <|
         k (.bool b58)) (
         k (.bool false))) (
        k (.bool false))))))))
theorem F5_L1_rule {k : Value → W} (I : Option Addr → Nat → Nat → Option Addr → Nat → Nat → Option Addr → Nat → Nat → Option Addr → Nat → Nat → Option Addr → Nat → Nat → Int → Int → W) (μ : Option Addr → Nat → Nat → Option Addr → Nat → Nat → Option Addr → Nat → Nat → Option Addr → Nat → Nat → Option Addr → Nat → Nat → Int → Int → World → Nat)
  (hr : ∀ (first_13p : Option Addr) (first_13l : Nat) (first_13c : Nat) (one_14p : Option Addr) (one_14l : Nat) (one_14c : Nat) (two_15p : Option Addr) (two_15l : Nat) (two_15c : Nat) (keys_16p : Option Addr) (keys_16l : Nat) (keys_16c : Nat) (s17p : Option Addr) (s17l : Nat) (s17c : Nat) (x18 : Int) (x19 : Int) (w : World), I first_13p first_13l first_13c one_14p one_14l one_14c two_15p two_15l two_15c keys_16p keys_16l keys_16c s17p s17l s17c x18 x19 w → F5_L1 k (fun first_13p' first_13l' first_13c' one_14p' one_14l' one_14c' two_15p' two_15l' two_15c' keys_16p' keys_16l' keys_16c' s17p' s17l' s17c' x18' x19' w' => I first_13p' first_13l' first_13c' one_14p' one_14l' one_14c' two_15p' two_15l' two_15c' keys_16p' keys_16l' keys_16c' s17p' s17l' s17c' x18' x19' w' ∧ μ first_13p' first_13l' first_13c' one_14p' one_14l' one_14c' two_15p' two_15l' two_15c' keys_16p' keys_16l' keys_16c' s17p' s17l' s17c' x18' x19' w' < μ first_13p first_13l first_13c one_14p one_14l one_14c two_15p two_15l two_15c keys_16p keys_16l keys_16c s17p s17l s17c x18 x19 w) first_13p first_13l first_13c one_14p one_14l one_14c two_15p two_15l two_15c keys_16p keys_16l keys_16c s17p s17l s17c x18 x19 w)
  {w : World} {first_13p : Option Addr} {first_13l : Nat} {first_13c : Nat} {one_14p : Option Addr} {one_14l : Nat} {one_14c : Nat} {two_15p : Option Addr} {two_15l : Nat} {two_15c : Nat} {keys_16p : Option Addr} {keys_16l : Nat} {keys_16c : Nat} {s17p : Option Addr} {s17l : Nat} {s17c : Nat} {x18 : Int} {x19 : Int} (h : I first_13p first_13l first_13c one_14p one_14l one_14c two_15p two_15l two_15c keys_16p keys_16l keys_16c s17p s17l s17c x18 x19 w) : Loop [.slice, .slice, .slice, .slice, .slice, (.int .i64), (.int .i64)] (F5_L1 k) first_13p first_13l first_13c one_14p one_14l one_14c two_15p two_15l two_15c keys_16p keys_16l keys_16c s17p s17l s17c x18 x19 w :=
  Loop_intro (ts := [.slice, .slice, .slice, .slice, .slice, (.int .i64), (.int .i64)]) (s := ((first_13p, first_13l, first_13c), (one_14p, one_14l, one_14c), (two_15p, two_15l, two_15c), (keys_16p, keys_16l, keys_16c), (s17p, s17l, s17c), x18, x19, ())) (fun s w => I s.1.1 s.1.2.1 s.1.2.2 s.2.1.1 s.2.1.2.1 s.2.1.2.2 s.2.2.1.1 s.2.2.1.2.1 s.2.2.1.2.2 s.2.2.2.1.1 s.2.2.2.1.2.1 s.2.2.2.1.2.2 s.2.2.2.2.1.1 s.2.2.2.2.1.2.1 s.2.2.2.2.1.2.2 s.2.2.2.2.2.1 s.2.2.2.2.2.2.1 w) (fun s w => μ s.1.1 s.1.2.1 s.1.2.2 s.2.1.1 s.2.1.2.1 s.2.1.2.2 s.2.2.1.1 s.2.2.1.2.1 s.2.2.1.2.2 s.2.2.2.1.1 s.2.2.2.1.2.1 s.2.2.2.1.2.2 s.2.2.2.2.1.1 s.2.2.2.2.1.2.1 s.2.2.2.2.1.2.2 s.2.2.2.2.2.1 s.2.2.2.2.2.2.1 w) h (fun s w h => hr s.1.1 s.1.2.1 s.1.2.2 s.2.1.1 s.2.1.2.1 s.2.1.2.2 s.2.2.1.1 s.2.2.1.2.1 s.2.2.1.2.2 s.2.2.2.1.1 s.2.2.2.1.2.1 s.2.2.2.1.2.2 s.2.2.2.2.1.1 s.2.2.2.2.1.2.1 s.2.2.2.2.1.2.2 s.2.2.2.2.2.1 s.2.2.2.2.2.2.1 w h)
def F5 (k : Value → W) (l_1p : Option Addr) (l_1l : Nat) (l_1c : Nat) (m_2p : Option Addr) (m_2l : Nat) (m_2c : Nat) (n_3p : Option Addr) (n_3l : Nat) (n_3c : Nat) : W :=
 BIf (decide (((l_1l : Nat) : Int) > 2147483647)) (
  k (.bool true)) (
  BIf (decide (((m_2l : Nat) : Int) > 2147483647)) (
   k (.bool true)) (
   BIf (decide (((n_3l : Nat) : Int) > 2147483647)) (
    k (.bool true)) (
    CallT Go.Proofs.Try.prog 7 [.slice l_1p l_1l l_1c] (.s (.one .bool)) fun b4 =>
    BIf (!b4) (
     k (.bool true)) (
     CallT Go.Proofs.Try.prog 7 [.slice m_2p m_2l m_2c] (.s (.one .bool)) fun b5 =>
     BIf (!b5) (
      k (.bool true)) (
      CallT Go.Proofs.Try.prog 7 [.slice n_3p n_3l n_3c] (.s (.one .bool)) fun b6 =>
      BIf (!b6) (
       k (.bool true)) (
       CallT Go.Proofs.Try.prog 12 [.slice l_1p l_1l l_1c, .int .i64 0] (.s (.one .slice)) fun s7p s7l s7c =>
       CallT Go.Proofs.Try.prog 12 [.slice m_2p m_2l m_2c, .int .i64 100] (.s (.one .slice)) fun s8p s8l s8c =>
       CallT Go.Proofs.Try.prog 12 [.slice n_3p n_3l n_3c, .int .i64 200] (.s (.one .slice)) fun s9p s9l s9c =>
       CallT Go.Proofs.Try.prog 15 [.slice s7p s7l s7c] (.s (.one .slice)) fun s10p s10l s10c =>
       NextT Go.Proofs.Try.prog (builtin .append #[37, 37] 37 [false, false].toArray [.slice s10p s10l s10c, .slice s8p s8l s8c].toArray) (.s (.one .slice)) fun s11p s11l s11c =>
       NextT Go.Proofs.Try.prog (builtin .append #[37, 37] 37 [false, false].toArray [.slice s11p s11l s11c, .slice s9p s9l s9c].toArray) (.s (.one .slice)) fun s12p s12l s12c =>
       Loop [.slice, .slice, .slice, .slice, .slice, (.int .i64), (.int .i64)] (F5_L1 k) s7p s7l s7c s8p s8l s8c s9p s9l s9c none 0 0 s12p s12l s12c ((s12l : Nat) : Int) 0))))))
theorem F5_eq (k : Value → W) (l_1p : Option Addr) (l_1l : Nat) (l_1c : Nat) (m_2p : Option Addr) (m_2l : Nat) (m_2c : Nat) (n_3p : Option Addr) (n_3l : Nat) (n_3c : Nat) : compF Go.Proofs.Try.prog Go.Proofs.Try.f5 [(8, [(7, .slice), (8, .slice), (9, .slice), (10, .slice), (52, .slice), (53, (.int .i64)), (54, (.int .i64))])] (Go.Proofs.Try.f5.body.getD .skip) [.slice l_1p l_1l l_1c, .slice m_2p m_2l m_2c, .slice n_3p n_3l n_3c] k = F5 k l_1p l_1l l_1c m_2p m_2l m_2c n_3p n_3l n_3c := by kernel_rfl
theorem F5_calls {l_1p : Option Addr} {l_1l : Nat} {l_1c : Nat} {m_2p : Option Addr} {m_2l : Nat} {m_2c : Nat} {n_3p : Option Addr} {n_3l : Nat} {n_3c : Nat} {w : World} {R : Ending → World → Prop} (h : F5 (fun v w => R (.returned v) w) l_1p l_1l l_1c m_2p m_2l m_2c n_3p n_3l n_3c w) : Calls Go.Proofs.Try.prog 5 #[.slice l_1p l_1l l_1c, .slice m_2p m_2l m_2c, .slice n_3p n_3l n_3c] w R :=
  calls_of_compF noNum follows [(8, [(7, .slice), (8, .slice), (9, .slice), (10, .slice), (52, .slice), (53, (.int .i64)), (54, (.int .i64))])] (f := 5) (fn := Go.Proofs.Try.f5) (body := Go.Proofs.Try.f5.body.getD .skip) (args := [.slice l_1p l_1l l_1c, .slice m_2p m_2l m_2c, .slice n_3p n_3l n_3c]) rfl rfl (Nat.le_of_ble_eq_true rfl) ((congrFun (F5_eq _ l_1p l_1l l_1c m_2p m_2l m_2c n_3p n_3l n_3c) w).mpr h)
theorem F5_call {l_1p : Option Addr} {l_1l : Nat} {l_1c : Nat} {m_2p : Option Addr} {m_2l : Nat} {m_2c : Nat} {n_3p : Option Addr} {n_3l : Nat} {n_3c : Nat} {w : World} {g : Fn W (RTy.leaves (.s (.one .bool)))} (h : F5 (fun v => Back (.s (.one .bool)) g (.returned v)) l_1p l_1l l_1c m_2p m_2l m_2c n_3p n_3l n_3c w) : CallT Go.Proofs.Try.prog 5 [.slice l_1p l_1l l_1c, .slice m_2p m_2l m_2c, .slice n_3p n_3l n_3c] (.s (.one .bool)) g w := F5_calls h

/-! ## laws.FnXTreeSet -/
def F6_L2 (k : Value → W) (again37 : Option Addr → Nat → Nat → Option Addr → Nat → Nat → Int → Option Addr → Nat → Nat → Option Addr → Nat → Nat → Option Addr → Nat → Nat → Option Addr → Nat → Nat → Int → Int → W) (l_28p : Option Addr) (l_28l : Nat) (l_28c : Nat) (own_29p : Option Addr) (own_29l : Nat) (own_29c : Nat) (n_30 : Int) (gone_31p : Option Addr) (gone_31l : Nat) (gone_31c : Nat) (keys_32p : Option Addr) (keys_32l : Nat) (keys_32c : Nat) (ask_33p : Option Addr) (ask_33l : Nat) (ask_33c : Nat) (s34p : Option Addr) (s34l : Nat) (s34c : Nat) (x35 : Int) (x36 : Int) : W :=
 BIf (decide (x36 < x35)) (
  NN s34p fun a38 =>
  Req (0 ≤ x36 ∧ x36 < ((s34l : Nat) : Int)) <|
  LoadT (.int .i64) (a38.add x36.toNat) fun x39 =>
  RawT Go.Proofs.Try.prog (Instr.buildSlice 24 1 [(0, .int .i64 x39)].toArray) (.s (.one .slice)) fun s40p s40l s40c =>
  NextT Go.Proofs.Try.prog (builtin .append #[24, 24] 24 [false, false].toArray [.slice keys_32p keys_32l keys_32c, .slice s40p s40l s40c].toArray) (.s (.one .slice)) fun s41p s41l s41c =>
  RawT Go.Proofs.Try.prog (Instr.buildSlice 37 1 [(0, .agg #[.int .i64 x39, .int .i64 0])].toArray) (.s (.one .slice)) fun s42p s42l s42c =>
  NextT Go.Proofs.Try.prog (builtin .append #[37, 37] 37 [false, false].toArray [.slice ask_33p ask_33l ask_33c, .slice s42p s42l s42c].toArray) (.s (.one .slice)) fun s43p s43l s43c =>
  again37 l_28p l_28l l_28c own_29p own_29l own_29c n_30 gone_31p gone_31l gone_31c s41p s41l s41c s43p s43l s43c s34p s34l s34c x35 (addI .i64 x36 1)) (
  Req (0 ≤ n_30 ∧ n_30 ≤ ((own_29c : Nat) : Int)) <|
  RawT Go.Proofs.Try.prog (Instr.buildSlice 47 2 [(0, .agg #[.int .i64 1, .int .i64 0, .slice own_29p own_29l own_29c]), (1, .agg #[.int .i64 2, .int .i64 1, .slice (sliceA own_29p 0 own_29c 2) (n_30.toNat - 0) (own_29c - 0)])].toArray) (.s (.one .slice)) fun s44p s44l s44c =>
  CallT Go.Proofs.Try.prog 13 [.slice s44p s44l s44c, .slice ask_33p ask_33l ask_33c] (.tup [(.agg [(.int .i64), .slice, .slice]), (.one .bool)]) fun x45 s46p s46l s46c s47p s47l s47c b48 =>
  New [.int .i64 0, .slice none 0 0, .slice none 0 0] 42 fun n49 =>
  Store1 ⟨n49, 0, none⟩ (.int .i64 x45) <|
  Store1 ⟨n49, 1, none⟩ (.slice s46p s46l s46c) <|
  Store1 ⟨n49, 2, none⟩ (.slice s47p s47l s47c) <|
  CallT Go.Proofs.Try.prog 8 [.slice l_28p l_28l l_28c] (.s (.one .slice)) fun s50p s50l s50c =>
  RawT Go.Proofs.Try.prog (Instr.buildSlice 33 1 [(0, .agg #[.int .i64 2, .slice gone_31p gone_31l gone_31c])].toArray) (.s (.one .slice)) fun s51p s51l s51c =>
  CallT Go.Proofs.Try.prog 9 [.slice s50p s50l s50c, .slice s51p s51l s51c] (.tup [(.agg [(.int .i64), .slice, .bool, .slice]), (.one .bool)]) fun x52 s53p s53l s53c b54 s55p s55l s55c b56 =>
  New [.int .i64 0, .slice none 0 0, .bool false, .slice none 0 0] 28 fun n57 =>
  Store1 ⟨n57, 0, none⟩ (.int .i64 x52) <|
  Store1 ⟨n57, 1, none⟩ (.slice s53p s53l s53c) <|
  Store1 ⟨n57, 2, none⟩ (.bool b54) <|
  Store1 ⟨n57, 3, none⟩ (.slice s55p s55l s55c) <|
  LoadT .slice ⟨n57, 1, none⟩ fun s58p s58l s58c =>
  RawT Go.Proofs.Try.prog (Instr.buildSlice 33 1 [(0, .agg #[.int .i64 4, .slice keys_32p keys_32l keys_32c])].toArray) (.s (.one .slice)) fun s59p s59l s59c =>
  CallT Go.Proofs.Try.prog 19 [.slice s58p s58l s58c, .slice s59p s59l s59c] (.s (.one .slice)) fun s60p s60l s60c =>
  Drw <|
  BIf b48 (
   BIf b56 (
    BIf (((s60l : Nat) : Int) == 1) (
     LoadT (.int .i64) ⟨n49, 0, none⟩ fun x61 =>
     LoadT (.int .i64) ⟨n57, 0, none⟩ fun x62 =>
     BIf (x61 == x62) (
      LoadT .slice ⟨n49, 2, none⟩ fun s63p s63l s63c =>
      NN s60p fun a64 =>
      Req (0 ≤ (0 : Int) ∧ (0 : Int) < ((s60l : Nat) : Int)) <|
      LoadT .slice ((a64.add ((0 : Int).toNat * 4)).add 3) fun s65p s65l s65c =>
      CallT Go.Proofs.Try.prog 14 [.slice s63p s63l s63c, .slice s65p s65l s65c] (.s (.one .bool)) fun b66 =>
      Chk1 ⟨n57, 0, none⟩ (.int .i64 x62) <|
      Chk1 ⟨n49, 0, none⟩ (.int .i64 x61) <|
      k (.bool b66)) (
      k (.bool false))) (
     k (.bool false))) (
    k (.bool false))) (
   k (.bool false)))
theorem F6_L2_rule {k : Value → W} (I : Option Addr → Nat → Nat → Option Addr → Nat → Nat → Int → Option Addr → Nat → Nat → Option Addr → Nat → Nat → Option Addr → Nat → Nat → Option Addr → Nat → Nat → Int → Int → W) (μ : Option Addr → Nat → Nat → Option Addr → Nat → Nat → Int → Option Addr → Nat → Nat → Option Addr → Nat → Nat → Option Addr → Nat → Nat → Option Addr → Nat → Nat → Int → Int → World → Nat)
  (hr : ∀ (l_28p : Option Addr) (l_28l : Nat) (l_28c : Nat) (own_29p : Option Addr) (own_29l : Nat) (own_29c : Nat) (n_30 : Int) (gone_31p : Option Addr) (gone_31l : Nat) (gone_31c : Nat) (keys_32p : Option Addr) (keys_32l : Nat) (keys_32c : Nat) (ask_33p : Option Addr) (ask_33l : Nat) (ask_33c : Nat) (s34p : Option Addr) (s34l : Nat) (s34c : Nat) (x35 : Int) (x36 : Int) (w : World), I l_28p l_28l l_28c own_29p own_29l own_29c n_30 gone_31p gone_31l gone_31c keys_32p keys_32l keys_32c ask_33p ask_33l ask_33c s34p s34l s34c x35 x36 w → F6_L2 k (fun l_28p' l_28l' l_28c' own_29p' own_29l' own_29c' n_30' gone_31p' gone_31l' gone_31c' keys_32p' keys_32l' keys_32c' ask_33p' ask_33l' ask_33c' s34p' s34l' s34c' x35' x36' w' => I l_28p' l_28l' l_28c' own_29p' own_29l' own_29c' n_30' gone_31p' gone_31l' gone_31c' keys_32p' keys_32l' keys_32c' ask_33p' ask_33l' ask_33c' s34p' s34l' s34c' x35' x36' w' ∧ μ l_28p' l_28l' l_28c' own_29p' own_29l' own_29c' n_30' gone_31p' gone_31l' gone_31c' keys_32p' keys_32l' keys_32c' ask_33p' ask_33l' ask_33c' s34p' s34l' s34c' x35' x36' w' < μ l_28p l_28l l_28c own_29p own_29l own_29c n_30 gone_31p gone_31l gone_31c keys_32p keys_32l keys_32c ask_33p ask_33l ask_33c s34p s34l s34c x35 x36 w) l_28p l_28l l_28c own_29p own_29l own_29c n_30 gone_31p gone_31l gone_31c keys_32p keys_32l keys_32c ask_33p ask_33l ask_33c s34p s34l s34c x35 x36 w)
  {w : World} {l_28p : Option Addr} {l_28l : Nat} {l_28c : Nat} {own_29p : Option Addr} {own_29l : Nat} {own_29c : Nat} {n_30 : Int} {gone_31p : Option Addr} {gone_31l : Nat} {gone_31c : Nat} {keys_32p : Option Addr} {keys_32l : Nat} {keys_32c : Nat} {ask_33p : Option Addr} {ask_33l : Nat} {ask_33c : Nat} {s34p : Option Addr} {s34l : Nat} {s34c : Nat} {x35 : Int} {x36 : Int} (h : I l_28p l_28l l_28c own_29p own_29l own_29c n_30 gone_31p gone_31l gone_31c keys_32p keys_32l keys_32c ask_33p ask_33l ask_33c s34p s34l s34c x35 x36 w) : Loop [.slice, .slice, (.int .i64), .slice, .slice, .slice, .slice, (.int .i64), (.int .i64)] (F6_L2 k) l_28p l_28l l_28c own_29p own_29l own_29c n_30 gone_31p gone_31l gone_31c keys_32p keys_32l keys_32c ask_33p ask_33l ask_33c s34p s34l s34c x35 x36 w :=
  Loop_intro (ts := [.slice, .slice, (.int .i64), .slice, .slice, .slice, .slice, (.int .i64), (.int .i64)]) (s := ((l_28p, l_28l, l_28c), (own_29p, own_29l, own_29c), n_30, (gone_31p, gone_31l, gone_31c), (keys_32p, keys_32l, keys_32c), (ask_33p, ask_33l, ask_33c), (s34p, s34l, s34c), x35, x36, ())) (fun s w => I s.1.1 s.1.2.1 s.1.2.2 s.2.1.1 s.2.1.2.1 s.2.1.2.2 s.2.2.1 s.2.2.2.1.1 s.2.2.2.1.2.1 s.2.2.2.1.2.2 s.2.2.2.2.1.1 s.2.2.2.2.1.2.1 s.2.2.2.2.1.2.2 s.2.2.2.2.2.1.1 s.2.2.2.2.2.1.2.1 s.2.2.2.2.2.1.2.2 s.2.2.2.2.2.2.1.1 s.2.2.2.2.2.2.1.2.1 s.2.2.2.2.2.2.1.2.2 s.2.2.2.2.2.2.2.1 s.2.2.2.2.2.2.2.2.1 w) (fun s w => μ s.1.1 s.1.2.1 s.1.2.2 s.2.1.1 s.2.1.2.1 s.2.1.2.2 s.2.2.1 s.2.2.2.1.1 s.2.2.2.1.2.1 s.2.2.2.1.2.2 s.2.2.2.2.1.1 s.2.2.2.2.1.2.1 s.2.2.2.2.1.2.2 s.2.2.2.2.2.1.1 s.2.2.2.2.2.1.2.1 s.2.2.2.2.2.1.2.2 s.2.2.2.2.2.2.1.1 s.2.2.2.2.2.2.1.2.1 s.2.2.2.2.2.2.1.2.2 s.2.2.2.2.2.2.2.1 s.2.2.2.2.2.2.2.2.1 w) h (fun s w h => hr s.1.1 s.1.2.1 s.1.2.2 s.2.1.1 s.2.1.2.1 s.2.1.2.2 s.2.2.1 s.2.2.2.1.1 s.2.2.2.1.2.1 s.2.2.2.1.2.2 s.2.2.2.2.1.1 s.2.2.2.2.1.2.1 s.2.2.2.2.1.2.2 s.2.2.2.2.2.1.1 s.2.2.2.2.2.1.2.1 s.2.2.2.2.2.1.2.2 s.2.2.2.2.2.2.1.1 s.2.2.2.2.2.2.1.2.1 s.2.2.2.2.2.2.1.2.2 s.2.2.2.2.2.2.2.1 s.2.2.2.2.2.2.2.2.1 w h)
def F6_L1 (k : Value → W) (again17 : Option Addr → Nat → Nat → Option Addr → Nat → Nat → Option Addr → Nat → Nat → Int → Option Addr → Nat → Nat → Option Addr → Nat → Nat → Option Addr → Nat → Nat → Option Addr → Nat → Nat → Int → Int → W) (l_7p : Option Addr) (l_7l : Nat) (l_7c : Nat) (asked_8p : Option Addr) (asked_8l : Nat) (asked_8c : Nat) (own_9p : Option Addr) (own_9l : Nat) (own_9c : Nat) (n_10 : Int) (gone_11p : Option Addr) (gone_11l : Nat) (gone_11c : Nat) (keys_12p : Option Addr) (keys_12l : Nat) (keys_12c : Nat) (ask_13p : Option Addr) (ask_13l : Nat) (ask_13c : Nat) (s14p : Option Addr) (s14l : Nat) (s14c : Nat) (x15 : Int) (x16 : Int) : W :=
 BIf (decide (x16 < x15)) (
  NN s14p fun a18 =>
  Req (0 ≤ x16 ∧ x16 < ((s14l : Nat) : Int)) <|
  LoadT (.int .i64) ((a18.add (x16.toNat * 2)).add 0) fun x19 =>
  LoadT (.int .i64) ((a18.add (x16.toNat * 2)).add 1) fun x20 =>
  New [.int .i64 0, .int .i64 0] 40 fun n21 =>
  Store1 ⟨n21, 0, none⟩ (.int .i64 x19) <|
  Store1 ⟨n21, 1, none⟩ (.int .i64 x20) <|
  LoadT (.int .i64) ⟨n21, 0, none⟩ fun x22 =>
  RawT Go.Proofs.Try.prog (Instr.buildSlice 24 1 [(0, .int .i64 x22)].toArray) (.s (.one .slice)) fun s23p s23l s23c =>
  NextT Go.Proofs.Try.prog (builtin .append #[24, 24] 24 [false, false].toArray [.slice gone_11p gone_11l gone_11c, .slice s23p s23l s23c].toArray) (.s (.one .slice)) fun s24p s24l s24c =>
  again17 l_7p l_7l l_7c asked_8p asked_8l asked_8c own_9p own_9l own_9c n_10 s24p s24l s24c keys_12p keys_12l keys_12c ask_13p ask_13l ask_13c s14p s14l s14c x15 (addI .i64 x16 1)) (
  CallT Go.Proofs.Try.prog 8 [.slice l_7p l_7l l_7c] (.s (.one .slice)) fun s25p s25l s25c =>
  CallT Go.Proofs.Try.prog 8 [.slice asked_8p asked_8l asked_8c] (.s (.one .slice)) fun s26p s26l s26c =>
  NextT Go.Proofs.Try.prog (builtin .append #[24, 24] 24 [false, false].toArray [.slice s25p s25l s25c, .slice s26p s26l s26c].toArray) (.s (.one .slice)) fun s27p s27l s27c =>
  Loop [.slice, .slice, (.int .i64), .slice, .slice, .slice, .slice, (.int .i64), (.int .i64)] (F6_L2 k) l_7p l_7l l_7c own_9p own_9l own_9c n_10 gone_11p gone_11l gone_11c keys_12p keys_12l keys_12c ask_13p ask_13l ask_13c s27p s27l s27c ((s27l : Nat) : Int) 0)
theorem F6_L1_rule {k : Value → W} (I : Option Addr → Nat → Nat → Option Addr → Nat → Nat → Option Addr → Nat → Nat → Int → Option Addr → Nat → Nat → Option Addr → Nat → Nat → Option Addr → Nat → Nat → Option Addr → Nat → Nat → Int → Int → W) (μ : Option Addr → Nat → Nat → Option Addr → Nat → Nat → Option Addr → Nat → Nat → Int → Option Addr → Nat → Nat → Option Addr → Nat → Nat → Option Addr → Nat → Nat → Option Addr → Nat → Nat → Int → Int → World → Nat)
  (hr : ∀ (l_7p : Option Addr) (l_7l : Nat) (l_7c : Nat) (asked_8p : Option Addr) (asked_8l : Nat) (asked_8c : Nat) (own_9p : Option Addr) (own_9l : Nat) (own_9c : Nat) (n_10 : Int) (gone_11p : Option Addr) (gone_11l : Nat) (gone_11c : Nat) (keys_12p : Option Addr) (keys_12l : Nat) (keys_12c : Nat) (ask_13p : Option Addr) (ask_13l : Nat) (ask_13c : Nat) (s14p : Option Addr) (s14l : Nat) (s14c : Nat) (x15 : Int) (x16 : Int) (w : World), I l_7p l_7l l_7c asked_8p asked_8l asked_8c own_9p own_9l own_9c n_10 gone_11p gone_11l gone_11c keys_12p keys_12l keys_12c ask_13p ask_13l ask_13c s14p s14l s14c x15 x16 w → F6_L1 k (fun l_7p' l_7l' l_7c' asked_8p' asked_8l' asked_8c' own_9p' own_9l' own_9c' n_10' gone_11p' gone_11l' gone_11c' keys_12p' keys_12l' keys_12c' ask_13p' ask_13l' ask_13c' s14p' s14l' s14c' x15' x16' w' => I l_7p' l_7l' l_7c' asked_8p' asked_8l' asked_8c' own_9p' own_9l' own_9c' n_10' gone_11p' gone_11l' gone_11c' keys_12p' keys_12l' keys_12c' ask_13p' ask_13l' ask_13c' s14p' s14l' s14c' x15' x16' w' ∧ μ l_7p' l_7l' l_7c' asked_8p' asked_8l' asked_8c' own_9p' own_9l' own_9c' n_10' gone_11p' gone_11l' gone_11c' keys_12p' keys_12l' keys_12c' ask_13p' ask_13l' ask_13c' s14p' s14l' s14c' x15' x16' w' < μ l_7p l_7l l_7c asked_8p asked_8l asked_8c own_9p own_9l own_9c n_10 gone_11p gone_11l gone_11c keys_12p keys_12l keys_12c ask_13p ask_13l ask_13c s14p s14l s14c x15 x16 w) l_7p l_7l l_7c asked_8p asked_8l asked_8c own_9p own_9l own_9c n_10 gone_11p gone_11l gone_11c keys_12p keys_12l keys_12c ask_13p ask_13l ask_13c s14p s14l s14c x15 x16 w)
  {w : World} {l_7p : Option Addr} {l_7l : Nat} {l_7c : Nat} {asked_8p : Option Addr} {asked_8l : Nat} {asked_8c : Nat} {own_9p : Option Addr} {own_9l : Nat} {own_9c : Nat} {n_10 : Int} {gone_11p : Option Addr} {gone_11l : Nat} {gone_11c : Nat} {keys_12p : Option Addr} {keys_12l : Nat} {keys_12c : Nat} {ask_13p : Option Addr} {ask_13l : Nat} {ask_13c : Nat} {s14p : Option Addr} {s14l : Nat} {s14c : Nat} {x15 : Int} {x16 : Int} (h : I l_7p l_7l l_7c asked_8p asked_8l asked_8c own_9p own_9l own_9c n_10 gone_11p gone_11l gone_11c keys_12p keys_12l keys_12c ask_13p ask_13l ask_13c s14p s14l s14c x15 x16 w) : Loop [.slice, .slice, .slice, (.int .i64), .slice, .slice, .slice, .slice, (.int .i64), (.int .i64)] (F6_L1 k) l_7p l_7l l_7c asked_8p asked_8l asked_8c own_9p own_9l own_9c n_10 gone_11p gone_11l gone_11c keys_12p keys_12l keys_12c ask_13p ask_13l ask_13c s14p s14l s14c x15 x16 w :=
  Loop_intro (ts := [.slice, .slice, .slice, (.int .i64), .slice, .slice, .slice, .slice, (.int .i64), (.int .i64)]) (s := ((l_7p, l_7l, l_7c), (asked_8p, asked_8l, asked_8c), (own_9p, own_9l, own_9c), n_10, (gone_11p, gone_11l, gone_11c), (keys_12p, keys_12l, keys_12c), (ask_13p, ask_13l, ask_13c), (s14p, s14l, s14c), x15, x16, ())) (fun s w => I s.1.1 s.1.2.1 s.1.2.2 s.2.1.1 s.2.1.2.1 s.2.1.2.2 s.2.2.1.1 s.2.2.1.2.1 s.2.2.1.2.2 s.2.2.2.1 s.2.2.2.2.1.1 s.2.2.2.2.1.2.1 s.2.2.2.2.1.2.2 s.2.2.2.2.2.1.1 s.2.2.2.2.2.1.2.1 s.2.2.2.2.2.1.2.2 s.2.2.2.2.2.2.1.1 s.2.2.2.2.2.2.1.2.1 s.2.2.2.2.2.2.1.2.2 s.2.2.2.2.2.2.2.1.1 s.2.2.2.2.2.2.2.1.2.1 s.2.2.2.2.2.2.2.1.2.2 s.2.2.2.2.2.2.2.2.1 s.2.2.2.2.2.2.2.2.2.1 w) (fun s w => μ s.1.1 s.1.2.1 s.1.2.2 s.2.1.1 s.2.1.2.1 s.2.1.2.2 s.2.2.1.1 s.2.2.1.2.1 s.2.2.1.2.2 s.2.2.2.1 s.2.2.2.2.1.1 s.2.2.2.2.1.2.1 s.2.2.2.2.1.2.2 s.2.2.2.2.2.1.1 s.2.2.2.2.2.1.2.1 s.2.2.2.2.2.1.2.2 s.2.2.2.2.2.2.1.1 s.2.2.2.2.2.2.1.2.1 s.2.2.2.2.2.2.1.2.2 s.2.2.2.2.2.2.2.1.1 s.2.2.2.2.2.2.2.1.2.1 s.2.2.2.2.2.2.2.1.2.2 s.2.2.2.2.2.2.2.2.1 s.2.2.2.2.2.2.2.2.2.1 w) h (fun s w h => hr s.1.1 s.1.2.1 s.1.2.2 s.2.1.1 s.2.1.2.1 s.2.1.2.2 s.2.2.1.1 s.2.2.1.2.1 s.2.2.1.2.2 s.2.2.2.1 s.2.2.2.2.1.1 s.2.2.2.2.1.2.1 s.2.2.2.2.1.2.2 s.2.2.2.2.2.1.1 s.2.2.2.2.2.1.2.1 s.2.2.2.2.2.1.2.2 s.2.2.2.2.2.2.1.1 s.2.2.2.2.2.2.1.2.1 s.2.2.2.2.2.2.1.2.2 s.2.2.2.2.2.2.2.1.1 s.2.2.2.2.2.2.2.1.2.1 s.2.2.2.2.2.2.2.1.2.2 s.2.2.2.2.2.2.2.2.1 s.2.2.2.2.2.2.2.2.2.1 w h)
def F6 (k : Value → W) (l_1p : Option Addr) (l_1l : Nat) (l_1c : Nat) (many_2 : Int) (asked_3p : Option Addr) (asked_3l : Nat) (asked_3c : Nat) : W :=
 BIf (decide (((l_1l : Nat) : Int) > 2147483647)) (
  k (.bool true)) (
  BIf (decide (((asked_3l : Nat) : Int) > 2147483647)) (
   k (.bool true)) (
   CallT Go.Proofs.Try.prog 7 [.slice l_1p l_1l l_1c] (.s (.one .bool)) fun b4 =>
   BIf (!b4) (
    k (.bool true)) (
    BIf (decide (((asked_3l : Nat) : Int) > 20)) (
     k (.bool true)) (
     CallT Go.Proofs.Try.prog 12 [.slice l_1p l_1l l_1c, .int .i64 0] (.s (.one .slice)) fun s5p s5l s5c =>
     Req (((s5l : Nat) : Int) ≠ (0 : Int)) <|
     Bind (addI .i64 1 (remI (IntKind.wrap .i64 many_2) ((s5l : Nat) : Int)) : Int) fun n_6 =>
     Req (0 ≤ n_6 ∧ n_6 ≤ ((s5c : Nat) : Int)) <|
     Loop [.slice, .slice, .slice, (.int .i64), .slice, .slice, .slice, .slice, (.int .i64), (.int .i64)] (F6_L1 k) l_1p l_1l l_1c asked_3p asked_3l asked_3c s5p s5l s5c n_6 none 0 0 none 0 0 none 0 0 (sliceA s5p 0 s5c 2) (n_6.toNat - 0) (s5c - 0) ((n_6.toNat - 0 : Nat) : Int) 0))))
theorem F6_eq (k : Value → W) (l_1p : Option Addr) (l_1l : Nat) (l_1c : Nat) (many_2 : Int) (asked_3p : Option Addr) (asked_3l : Nat) (asked_3c : Nat) : compF Go.Proofs.Try.prog Go.Proofs.Try.f6 [(10, [(0, .slice), (2, .slice), (7, .slice), (8, (.int .i64)), (9, .slice), (10, .slice), (11, .slice), (47, .slice), (48, (.int .i64)), (49, (.int .i64))]), (15, [(0, .slice), (7, .slice), (8, (.int .i64)), (9, .slice), (10, .slice), (11, .slice), (63, .slice), (64, (.int .i64)), (65, (.int .i64))])] (Go.Proofs.Try.f6.body.getD .skip) [.slice l_1p l_1l l_1c, .int .u8 many_2, .slice asked_3p asked_3l asked_3c] k = F6 k l_1p l_1l l_1c many_2 asked_3p asked_3l asked_3c := by kernel_rfl
theorem F6_calls {l_1p : Option Addr} {l_1l : Nat} {l_1c : Nat} {many_2 : Int} {asked_3p : Option Addr} {asked_3l : Nat} {asked_3c : Nat} {w : World} {R : Ending → World → Prop} (h : F6 (fun v w => R (.returned v) w) l_1p l_1l l_1c many_2 asked_3p asked_3l asked_3c w) : Calls Go.Proofs.Try.prog 6 #[.slice l_1p l_1l l_1c, .int .u8 many_2, .slice asked_3p asked_3l asked_3c] w R :=
  calls_of_compF noNum follows [(10, [(0, .slice), (2, .slice), (7, .slice), (8, (.int .i64)), (9, .slice), (10, .slice), (11, .slice), (47, .slice), (48, (.int .i64)), (49, (.int .i64))]), (15, [(0, .slice), (7, .slice), (8, (.int .i64)), (9, .slice), (10, .slice), (11, .slice), (63, .slice), (64, (.int .i64)), (65, (.int .i64))])] (f := 6) (fn := Go.Proofs.Try.f6) (body := Go.Proofs.Try.f6.body.getD .skip) (args := [.slice l_1p l_1l l_1c, .int .u8 many_2, .slice asked_3p asked_3l asked_3c]) rfl rfl (Nat.le_of_ble_eq_true rfl) ((congrFun (F6_eq _ l_1p l_1l l_1c many_2 asked_3p asked_3l asked_3c) w).mpr h)
theorem F6_call {l_1p : Option Addr} {l_1l : Nat} {l_1c : Nat} {many_2 : Int} {asked_3p : Option Addr} {asked_3l : Nat} {asked_3c : Nat} {w : World} {g : Fn W (RTy.leaves (.s (.one .bool)))} (h : F6 (fun v => Back (.s (.one .bool)) g (.returned v)) l_1p l_1l l_1c many_2 asked_3p asked_3l asked_3c w) : CallT Go.Proofs.Try.prog 6 [.slice l_1p l_1l l_1c, .int .u8 many_2, .slice asked_3p asked_3l asked_3c] (.s (.one .bool)) g w := F6_calls h

end Go.Proofs.Ytokejbejoegnnaa.E
