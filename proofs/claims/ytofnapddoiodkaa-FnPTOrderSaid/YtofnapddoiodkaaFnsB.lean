/-
  Printed by this session's own program eng.py out of Lean's print of the loaded functions: what each function's body asks, in the engine's words; each is checked against the program by the kernel.
-/
import Derived.Test.YtofnapddoiodkaaEng
import Derived.Test.YtofnapddoiodkaaFnsA
namespace Go.Proofs.Ytofnapddoiodkaa.E
open Go
set_option linter.unusedVariables false
set_option maxRecDepth 100000
/-! ## impl.keys -/
def F9_L1 (k : Value → W) (again6 : Option Addr → Nat → Nat → Option Addr → Nat → Nat → Int → Int → W) (out_2p : Option Addr) (out_2l : Nat) (out_2c : Nat) (s3p : Option Addr) (s3l : Nat) (s3c : Nat) (x4 : Int) (x5 : Int) : W :=
 BIf (decide (x5 < x4)) (
  NN s3p fun a7 =>
  Req (0 ≤ x5 ∧ x5 < ((s3l : Nat) : Int)) <|
  LoadT (.int .i64) ((a7.add (x5.toNat * 2)).add 0) fun x8 =>
  LoadT (.int .i64) ((a7.add (x5.toNat * 2)).add 1) fun x9 =>
  New [.int .i64 0, .int .i64 0] 26 fun n10 =>
  Store1 ⟨n10, 0, none⟩ (.int .i64 x8) <|
  Store1 ⟨n10, 1, none⟩ (.int .i64 x9) <|
  LoadT (.int .i64) ⟨n10, 0, none⟩ fun x11 =>
  LoadT (.int .i64) ⟨n10, 1, none⟩ fun x12 =>
  RawT Go.Proofs.Try.prog (Instr.buildSlice 43 1 [(0, .iface 54 (.agg #[.int .i64 x11, .int .i64 x12]))].toArray) (.s (.one .slice)) fun s13p s13l s13c =>
  NextT Go.Proofs.Try.prog (builtin .append #[43, 43] 43 [false, false].toArray [.slice out_2p out_2l out_2c, .slice s13p s13l s13c].toArray) (.s (.one .slice)) fun s14p s14l s14c =>
  again6 s14p s14l s14c s3p s3l s3c x4 (addI .i64 x5 1)) (
  k (.slice out_2p out_2l out_2c))
theorem F9_L1_rule {k : Value → W} (I : Option Addr → Nat → Nat → Option Addr → Nat → Nat → Int → Int → W) (μ : Option Addr → Nat → Nat → Option Addr → Nat → Nat → Int → Int → World → Nat)
  (hr : ∀ (out_2p : Option Addr) (out_2l : Nat) (out_2c : Nat) (s3p : Option Addr) (s3l : Nat) (s3c : Nat) (x4 : Int) (x5 : Int) (w : World), I out_2p out_2l out_2c s3p s3l s3c x4 x5 w → F9_L1 k (fun out_2p' out_2l' out_2c' s3p' s3l' s3c' x4' x5' w' => I out_2p' out_2l' out_2c' s3p' s3l' s3c' x4' x5' w' ∧ μ out_2p' out_2l' out_2c' s3p' s3l' s3c' x4' x5' w' < μ out_2p out_2l out_2c s3p s3l s3c x4 x5 w) out_2p out_2l out_2c s3p s3l s3c x4 x5 w)
  {w : World} {out_2p : Option Addr} {out_2l : Nat} {out_2c : Nat} {s3p : Option Addr} {s3l : Nat} {s3c : Nat} {x4 : Int} {x5 : Int} (h : I out_2p out_2l out_2c s3p s3l s3c x4 x5 w) : Loop [.slice, .slice, (.int .i64), (.int .i64)] (F9_L1 k) out_2p out_2l out_2c s3p s3l s3c x4 x5 w :=
  Loop_intro (ts := [.slice, .slice, (.int .i64), (.int .i64)]) (s := ((out_2p, out_2l, out_2c), (s3p, s3l, s3c), x4, x5, ())) (fun s w => I s.1.1 s.1.2.1 s.1.2.2 s.2.1.1 s.2.1.2.1 s.2.1.2.2 s.2.2.1 s.2.2.2.1 w) (fun s w => μ s.1.1 s.1.2.1 s.1.2.2 s.2.1.1 s.2.1.2.1 s.2.1.2.2 s.2.2.1 s.2.2.2.1 w) h (fun s w h => hr s.1.1 s.1.2.1 s.1.2.2 s.2.1.1 s.2.1.2.1 s.2.1.2.2 s.2.2.1 s.2.2.2.1 w h)
def F9 (k : Value → W) (l_1p : Option Addr) (l_1l : Nat) (l_1c : Nat) : W :=
 Loop [.slice, .slice, (.int .i64), (.int .i64)] (F9_L1 k) none 0 0 l_1p l_1l l_1c ((l_1l : Nat) : Int) 0
theorem F9_eq (k : Value → W) (l_1p : Option Addr) (l_1l : Nat) (l_1c : Nat) : compF Go.Proofs.Try.prog Go.Proofs.Try.f9 [(3, [(3, .slice), (6, .slice), (7, (.int .i64)), (8, (.int .i64))])] (Go.Proofs.Try.f9.body.getD .skip) [.slice l_1p l_1l l_1c] k = F9 k l_1p l_1l l_1c := by kernel_rfl
theorem F9_calls {l_1p : Option Addr} {l_1l : Nat} {l_1c : Nat} {w : World} {R : Ending → World → Prop} (h : F9 (fun v w => R (.returned v) w) l_1p l_1l l_1c w) : Calls Go.Proofs.Try.prog 9 #[.slice l_1p l_1l l_1c] w R :=
  calls_of_compF noNum follows [(3, [(3, .slice), (6, .slice), (7, (.int .i64)), (8, (.int .i64))])] (f := 9) (fn := Go.Proofs.Try.f9) (body := Go.Proofs.Try.f9.body.getD .skip) (args := [.slice l_1p l_1l l_1c]) rfl rfl (Nat.le_of_ble_eq_true rfl) ((congrFun (F9_eq _ l_1p l_1l l_1c) w).mpr h)
theorem F9_call {l_1p : Option Addr} {l_1l : Nat} {l_1c : Nat} {w : World} {g : Fn W (RTy.leaves (.s (.one .slice)))} (h : F9 (fun v => Back (.s (.one .slice)) g (.returned v)) l_1p l_1l l_1c w) : CallT Go.Proofs.Try.prog 9 [.slice l_1p l_1l l_1c] (.s (.one .slice)) g w := F9_calls h

/-! ## impl.WordAnswer).keep -/
def F11 (k : Value → W) (a_1 : Option Addr) (x_2 : Value) : W :=
 RawS Go.Proofs.Try.prog (Instr.typeAssert x_2 48 54 true) (.tup [(.agg [(.int .i64), (.int .i64)]), (.one .bool)]) fun x3 x4 b5 =>
 New [.int .i64 0, .int .i64 0] 54 fun n6 =>
 Store1 ⟨n6, 0, none⟩ (.int .i64 x3) <|
 Store1 ⟨n6, 1, none⟩ (.int .i64 x4) <|
 Drw <|
 NN a_1 fun a7 =>
 LoadT .slice a7 fun s8p s8l s8c =>
 LoadT (.int .i64) ⟨n6, 0, none⟩ fun x9 =>
 LoadT (.int .i64) ⟨n6, 1, none⟩ fun x10 =>
 NN a_1 fun a11 =>
 LoadT .slice (a11.add 1) fun s12p s12l s12c =>
 Both (
  RawT Go.Proofs.Try.prog (Instr.buildSlice 23 1 [(0, .agg #[.int .i64 x9, .int .i64 x10])].toArray) (.s (.one .slice)) fun s13p s13l s13c =>
  Chk1 (a11.add 1) (.slice s12p s12l s12c) <|
  Chk1 a7 (.slice s8p s8l s8c) <|
  Both (
   NextT Go.Proofs.Try.prog (builtin .append #[23, 23] 23 [false, false].toArray [.slice s8p s8l s8c, .slice s13p s13l s13c].toArray) (.s (.one .slice)) fun s14p s14l s14c =>
   Chk1 (a11.add 1) (.slice s12p s12l s12c) <|
   Chk1 ⟨n6, 0, none⟩ (.int .i64 x9) <|
   Chk1 ⟨n6, 1, none⟩ (.int .i64 x10) <|
   RawT Go.Proofs.Try.prog (Instr.buildSlice 28 1 [(0, .bool b5)].toArray) (.s (.one .slice)) fun s15p s15l s15c =>
   Chk1 (a11.add 1) (.slice s12p s12l s12c) <|
   Chk1 ⟨n6, 0, none⟩ (.int .i64 x9) <|
   Chk1 ⟨n6, 1, none⟩ (.int .i64 x10) <|
   Chk1 a7 (.slice s8p s8l s8c) <|
   NextT Go.Proofs.Try.prog (builtin .append #[28, 28] 28 [false, false].toArray [.slice s12p s12l s12c, .slice s15p s15l s15c].toArray) (.s (.one .slice)) fun s16p s16l s16c =>
   Chk1 ⟨n6, 0, none⟩ (.int .i64 x9) <|
   Chk1 ⟨n6, 1, none⟩ (.int .i64 x10) <|
   Chk1 a7 (.slice s8p s8l s8c) <|
   NN a_1 fun a17 =>
   Store1 a17 (.slice s14p s14l s14c) <|
   NN a_1 fun a18 =>
   Store1 (a18.add 1) (.slice s16p s16l s16c) <|
   k (.tuple #[])) (
   RawT Go.Proofs.Try.prog (Instr.buildSlice 28 1 [(0, .bool b5)].toArray) (.s (.one .slice)) fun s19p s19l s19c =>
   Chk1 (a11.add 1) (.slice s12p s12l s12c) <|
   Chk1 ⟨n6, 0, none⟩ (.int .i64 x9) <|
   Chk1 ⟨n6, 1, none⟩ (.int .i64 x10) <|
   Chk1 a7 (.slice s8p s8l s8c) <|
   NextT Go.Proofs.Try.prog (builtin .append #[23, 23] 23 [false, false].toArray [.slice s8p s8l s8c, .slice s13p s13l s13c].toArray) (.s (.one .slice)) fun s20p s20l s20c =>
   Chk1 (a11.add 1) (.slice s12p s12l s12c) <|
   Chk1 ⟨n6, 0, none⟩ (.int .i64 x9) <|
   Chk1 ⟨n6, 1, none⟩ (.int .i64 x10) <|
   NextT Go.Proofs.Try.prog (builtin .append #[28, 28] 28 [false, false].toArray [.slice s12p s12l s12c, .slice s19p s19l s19c].toArray) (.s (.one .slice)) fun s21p s21l s21c =>
   Chk1 ⟨n6, 0, none⟩ (.int .i64 x9) <|
   Chk1 ⟨n6, 1, none⟩ (.int .i64 x10) <|
   Chk1 a7 (.slice s8p s8l s8c) <|
   NN a_1 fun a22 =>
   Store1 a22 (.slice s20p s20l s20c) <|
   NN a_1 fun a23 =>
   Store1 (a23.add 1) (.slice s21p s21l s21c) <|
   k (.tuple #[]))) (
  RawT Go.Proofs.Try.prog (Instr.buildSlice 28 1 [(0, .bool b5)].toArray) (.s (.one .slice)) fun s24p s24l s24c =>
  Chk1 (a11.add 1) (.slice s12p s12l s12c) <|
  Chk1 ⟨n6, 0, none⟩ (.int .i64 x9) <|
  Chk1 ⟨n6, 1, none⟩ (.int .i64 x10) <|
  Chk1 a7 (.slice s8p s8l s8c) <|
  RawT Go.Proofs.Try.prog (Instr.buildSlice 23 1 [(0, .agg #[.int .i64 x9, .int .i64 x10])].toArray) (.s (.one .slice)) fun s25p s25l s25c =>
  Chk1 (a11.add 1) (.slice s12p s12l s12c) <|
  Chk1 a7 (.slice s8p s8l s8c) <|
  NextT Go.Proofs.Try.prog (builtin .append #[23, 23] 23 [false, false].toArray [.slice s8p s8l s8c, .slice s25p s25l s25c].toArray) (.s (.one .slice)) fun s26p s26l s26c =>
  Chk1 (a11.add 1) (.slice s12p s12l s12c) <|
  Chk1 ⟨n6, 0, none⟩ (.int .i64 x9) <|
  Chk1 ⟨n6, 1, none⟩ (.int .i64 x10) <|
  NextT Go.Proofs.Try.prog (builtin .append #[28, 28] 28 [false, false].toArray [.slice s12p s12l s12c, .slice s24p s24l s24c].toArray) (.s (.one .slice)) fun s27p s27l s27c =>
  Chk1 ⟨n6, 0, none⟩ (.int .i64 x9) <|
  Chk1 ⟨n6, 1, none⟩ (.int .i64 x10) <|
  Chk1 a7 (.slice s8p s8l s8c) <|
  NN a_1 fun a28 =>
  Store1 a28 (.slice s26p s26l s26c) <|
  NN a_1 fun a29 =>
  Store1 (a29.add 1) (.slice s27p s27l s27c) <|
  k (.tuple #[]))
theorem F11_eq (k : Value → W) (a_1 : Option Addr) (x_2 : Value) : compF Go.Proofs.Try.prog Go.Proofs.Try.f11 [] (Go.Proofs.Try.f11.body.getD .skip) [.pointer a_1, x_2] k = F11 k a_1 x_2 := by kernel_rfl
theorem F11_calls {a_1 : Option Addr} {x_2 : Value} {w : World} {R : Ending → World → Prop} (h : F11 (fun v w => R (.returned v) w) a_1 x_2 w) : Calls Go.Proofs.Try.prog 11 #[.pointer a_1, x_2] w R :=
  calls_of_compF noNum follows [] (f := 11) (fn := Go.Proofs.Try.f11) (body := Go.Proofs.Try.f11.body.getD .skip) (args := [.pointer a_1, x_2]) rfl rfl (Nat.le_of_ble_eq_true rfl) ((congrFun (F11_eq _ a_1 x_2) w).mpr h)
theorem F11_call {a_1 : Option Addr} {x_2 : Value} {w : World} {g : Fn W (RTy.leaves (.tup []))} (h : F11 (fun v => Back (.tup []) g (.returned v)) a_1 x_2 w) : CallT Go.Proofs.Try.prog 11 [.pointer a_1, x_2] (.tup []) g w := F11_calls h

/-! ## impl.PTRun -/
def F6_J1 (k : Value → W) (again9 : Option Addr → Option Addr → Nat → Nat → Option Addr → Nat → Nat → Int → Int → W) (t_19 : Option Addr) (out_20p : Option Addr) (out_20l : Nat) (out_20c : Nat) (said_21 : Addr) (s22p : Option Addr) (s22l : Nat) (s22c : Nat) (x23 : Int) (x24 : Int) : W :=
 LoadT .slice (said_21.add 0) fun s25p s25l s25c =>
 LoadT .slice (said_21.add 1) fun s26p s26l s26c =>
 LoadT (.int .u64) (said_21.add 2) fun x27 =>
 RawT Go.Proofs.Try.prog (Instr.buildSlice 36 1 [(0, .agg #[.slice s25p s25l s25c, .slice s26p s26l s26c, .int .u64 x27])].toArray) (.s (.one .slice)) fun s28p s28l s28c =>
 NextT Go.Proofs.Try.prog (builtin .append #[36, 36] 36 [false, false].toArray [.slice out_20p out_20l out_20c, .slice s28p s28l s28c].toArray) (.s (.one .slice)) fun s29p s29l s29c =>
 again9 t_19 s29p s29l s29c s22p s22l s22c x23 (addI .i64 x24 1)
def F6_L2 (k : Value → W) (again9 : Option Addr → Option Addr → Nat → Nat → Option Addr → Nat → Nat → Int → Int → W) (again42 : Option Addr → Option Addr → Nat → Nat → Addr → Option Addr → Nat → Nat → Int → Int → Option Addr → Nat → Nat → Int → Int → W) (t_33 : Option Addr) (out_34p : Option Addr) (out_34l : Nat) (out_34c : Nat) (said_35 : Addr) (s36p : Option Addr) (s36l : Nat) (s36c : Nat) (x37 : Int) (x38 : Int) (s39p : Option Addr) (s39l : Nat) (s39c : Nat) (x40 : Int) (x41 : Int) : W :=
 BIf (decide (x41 < x40)) (
  NN s39p fun a43 =>
  Req (0 ≤ x41 ∧ x41 < ((s39l : Nat) : Int)) <|
  LoadT .any (a43.add x41.toNat) fun v44 =>
  CallT Go.Proofs.Try.prog 11 [.pointer (some said_35), v44] (.tup []) <|
  again42 t_33 out_34p out_34l out_34c said_35 s36p s36l s36c x37 x38 s39p s39l s39c x40 (addI .i64 x41 1)) (
  F6_J1 k again9 t_33 out_34p out_34l out_34c said_35 s36p s36l s36c x37 x38)
theorem F6_L2_rule {k : Value → W} {again9 : Option Addr → Option Addr → Nat → Nat → Option Addr → Nat → Nat → Int → Int → W} (I : Option Addr → Option Addr → Nat → Nat → Addr → Option Addr → Nat → Nat → Int → Int → Option Addr → Nat → Nat → Int → Int → W) (μ : Option Addr → Option Addr → Nat → Nat → Addr → Option Addr → Nat → Nat → Int → Int → Option Addr → Nat → Nat → Int → Int → World → Nat)
  (hr : ∀ (t_33 : Option Addr) (out_34p : Option Addr) (out_34l : Nat) (out_34c : Nat) (said_35 : Addr) (s36p : Option Addr) (s36l : Nat) (s36c : Nat) (x37 : Int) (x38 : Int) (s39p : Option Addr) (s39l : Nat) (s39c : Nat) (x40 : Int) (x41 : Int) (w : World), I t_33 out_34p out_34l out_34c said_35 s36p s36l s36c x37 x38 s39p s39l s39c x40 x41 w → F6_L2 k again9 (fun t_33' out_34p' out_34l' out_34c' said_35' s36p' s36l' s36c' x37' x38' s39p' s39l' s39c' x40' x41' w' => I t_33' out_34p' out_34l' out_34c' said_35' s36p' s36l' s36c' x37' x38' s39p' s39l' s39c' x40' x41' w' ∧ μ t_33' out_34p' out_34l' out_34c' said_35' s36p' s36l' s36c' x37' x38' s39p' s39l' s39c' x40' x41' w' < μ t_33 out_34p out_34l out_34c said_35 s36p s36l s36c x37 x38 s39p s39l s39c x40 x41 w) t_33 out_34p out_34l out_34c said_35 s36p s36l s36c x37 x38 s39p s39l s39c x40 x41 w)
  {w : World} {t_33 : Option Addr} {out_34p : Option Addr} {out_34l : Nat} {out_34c : Nat} {said_35 : Addr} {s36p : Option Addr} {s36l : Nat} {s36c : Nat} {x37 : Int} {x38 : Int} {s39p : Option Addr} {s39l : Nat} {s39c : Nat} {x40 : Int} {x41 : Int} (h : I t_33 out_34p out_34l out_34c said_35 s36p s36l s36c x37 x38 s39p s39l s39c x40 x41 w) : Loop [.ptr, .slice, .addr, .slice, (.int .i64), (.int .i64), .slice, (.int .i64), (.int .i64)] (F6_L2 k again9) t_33 out_34p out_34l out_34c said_35 s36p s36l s36c x37 x38 s39p s39l s39c x40 x41 w :=
  Loop_intro (ts := [.ptr, .slice, .addr, .slice, (.int .i64), (.int .i64), .slice, (.int .i64), (.int .i64)]) (s := (t_33, (out_34p, out_34l, out_34c), said_35, (s36p, s36l, s36c), x37, x38, (s39p, s39l, s39c), x40, x41, ())) (fun s w => I s.1 s.2.1.1 s.2.1.2.1 s.2.1.2.2 s.2.2.1 s.2.2.2.1.1 s.2.2.2.1.2.1 s.2.2.2.1.2.2 s.2.2.2.2.1 s.2.2.2.2.2.1 s.2.2.2.2.2.2.1.1 s.2.2.2.2.2.2.1.2.1 s.2.2.2.2.2.2.1.2.2 s.2.2.2.2.2.2.2.1 s.2.2.2.2.2.2.2.2.1 w) (fun s w => μ s.1 s.2.1.1 s.2.1.2.1 s.2.1.2.2 s.2.2.1 s.2.2.2.1.1 s.2.2.2.1.2.1 s.2.2.2.1.2.2 s.2.2.2.2.1 s.2.2.2.2.2.1 s.2.2.2.2.2.2.1.1 s.2.2.2.2.2.2.1.2.1 s.2.2.2.2.2.2.1.2.2 s.2.2.2.2.2.2.2.1 s.2.2.2.2.2.2.2.2.1 w) h (fun s w h => hr s.1 s.2.1.1 s.2.1.2.1 s.2.1.2.2 s.2.2.1 s.2.2.2.1.1 s.2.2.2.1.2.1 s.2.2.2.1.2.2 s.2.2.2.2.1 s.2.2.2.2.2.1 s.2.2.2.2.2.2.1.1 s.2.2.2.2.2.2.1.2.1 s.2.2.2.2.2.2.1.2.2 s.2.2.2.2.2.2.2.1 s.2.2.2.2.2.2.2.2.1 w h)
def F6_L3 (k : Value → W) (again9 : Option Addr → Option Addr → Nat → Nat → Option Addr → Nat → Nat → Int → Int → W) (again59 : Option Addr → Option Addr → Nat → Nat → Addr → Addr → Value → Option Addr → Nat → Nat → Int → Int → W) (t_51 : Option Addr) (out_52p : Option Addr) (out_52l : Nat) (out_52c : Nat) (s_53 : Addr) (said_54 : Addr) (it_55 : Value) (s56p : Option Addr) (s56l : Nat) (s56c : Nat) (x57 : Int) (x58 : Int) : W :=
 LoadT .slice said_54 fun s60p s60l s60c =>
 LoadT (.int .i64) (s_53.add 2) fun x61 =>
 BIf (decide (((s60l : Nat) : Int) < x61)) (
  NextT Go.Proofs.Try.prog (callMethod it_55 "Next" [].toArray) (.s (.one .bool)) fun b62 =>
  BIf b62 (
   NextT Go.Proofs.Try.prog (callMethod it_55 "Value" [].toArray) (.s (.one .any)) fun v63 =>
   CallT Go.Proofs.Try.prog 11 [.pointer (some said_54), v63] (.tup []) <|
   again59 t_51 out_52p out_52l out_52c s_53 said_54 it_55 s56p s56l s56c x57 x58) (
   F6_J1 k again9 t_51 out_52p out_52l out_52c said_54 s56p s56l s56c x57 x58)) (
  F6_J1 k again9 t_51 out_52p out_52l out_52c said_54 s56p s56l s56c x57 x58)
theorem F6_L3_rule {k : Value → W} {again9 : Option Addr → Option Addr → Nat → Nat → Option Addr → Nat → Nat → Int → Int → W} (I : Option Addr → Option Addr → Nat → Nat → Addr → Addr → Value → Option Addr → Nat → Nat → Int → Int → W) (μ : Option Addr → Option Addr → Nat → Nat → Addr → Addr → Value → Option Addr → Nat → Nat → Int → Int → World → Nat)
  (hr : ∀ (t_51 : Option Addr) (out_52p : Option Addr) (out_52l : Nat) (out_52c : Nat) (s_53 : Addr) (said_54 : Addr) (it_55 : Value) (s56p : Option Addr) (s56l : Nat) (s56c : Nat) (x57 : Int) (x58 : Int) (w : World), I t_51 out_52p out_52l out_52c s_53 said_54 it_55 s56p s56l s56c x57 x58 w → F6_L3 k again9 (fun t_51' out_52p' out_52l' out_52c' s_53' said_54' it_55' s56p' s56l' s56c' x57' x58' w' => I t_51' out_52p' out_52l' out_52c' s_53' said_54' it_55' s56p' s56l' s56c' x57' x58' w' ∧ μ t_51' out_52p' out_52l' out_52c' s_53' said_54' it_55' s56p' s56l' s56c' x57' x58' w' < μ t_51 out_52p out_52l out_52c s_53 said_54 it_55 s56p s56l s56c x57 x58 w) t_51 out_52p out_52l out_52c s_53 said_54 it_55 s56p s56l s56c x57 x58 w)
  {w : World} {t_51 : Option Addr} {out_52p : Option Addr} {out_52l : Nat} {out_52c : Nat} {s_53 : Addr} {said_54 : Addr} {it_55 : Value} {s56p : Option Addr} {s56l : Nat} {s56c : Nat} {x57 : Int} {x58 : Int} (h : I t_51 out_52p out_52l out_52c s_53 said_54 it_55 s56p s56l s56c x57 x58 w) : Loop [.ptr, .slice, .addr, .addr, .any, .slice, (.int .i64), (.int .i64)] (F6_L3 k again9) t_51 out_52p out_52l out_52c s_53 said_54 it_55 s56p s56l s56c x57 x58 w :=
  Loop_intro (ts := [.ptr, .slice, .addr, .addr, .any, .slice, (.int .i64), (.int .i64)]) (s := (t_51, (out_52p, out_52l, out_52c), s_53, said_54, it_55, (s56p, s56l, s56c), x57, x58, ())) (fun s w => I s.1 s.2.1.1 s.2.1.2.1 s.2.1.2.2 s.2.2.1 s.2.2.2.1 s.2.2.2.2.1 s.2.2.2.2.2.1.1 s.2.2.2.2.2.1.2.1 s.2.2.2.2.2.1.2.2 s.2.2.2.2.2.2.1 s.2.2.2.2.2.2.2.1 w) (fun s w => μ s.1 s.2.1.1 s.2.1.2.1 s.2.1.2.2 s.2.2.1 s.2.2.2.1 s.2.2.2.2.1 s.2.2.2.2.2.1.1 s.2.2.2.2.2.1.2.1 s.2.2.2.2.2.1.2.2 s.2.2.2.2.2.2.1 s.2.2.2.2.2.2.2.1 w) h (fun s w h => hr s.1 s.2.1.1 s.2.1.2.1 s.2.1.2.2 s.2.2.1 s.2.2.2.1 s.2.2.2.2.1 s.2.2.2.2.2.1.1 s.2.2.2.2.2.1.2.1 s.2.2.2.2.2.1.2.2 s.2.2.2.2.2.2.1 s.2.2.2.2.2.2.2.1 w h)
def F6_L1 (k : Value → W) (again9 : Option Addr → Option Addr → Nat → Nat → Option Addr → Nat → Nat → Int → Int → W) (t_4 : Option Addr) (out_5p : Option Addr) (out_5l : Nat) (out_5c : Nat) (s6p : Option Addr) (s6l : Nat) (s6c : Nat) (x7 : Int) (x8 : Int) : W :=
 BIf (decide (x8 < x7)) (
  NN s6p fun a10 =>
  Req (0 ≤ x8 ∧ x8 < ((s6l : Nat) : Int)) <|
  LoadT (.int .i64) ((a10.add (x8.toNat * 3)).add 0) fun x11 =>
  LoadT .slice ((a10.add (x8.toNat * 3)).add 1) fun s12p s12l s12c =>
  LoadT (.int .i64) ((a10.add (x8.toNat * 3)).add 2) fun x13 =>
  New [.int .i64 0, .slice none 0 0, .int .i64 0] 35 fun n14 =>
  Store1 ⟨n14, 0, none⟩ (.int .i64 x11) <|
  Store1 ⟨n14, 1, none⟩ (.slice s12p s12l s12c) <|
  Store1 ⟨n14, 2, none⟩ (.int .i64 x13) <|
  New [.slice none 0 0, .slice none 0 0, .int .u64 0] 39 fun n15 =>
  LoadT (.int .i64) ⟨n14, 0, none⟩ fun x16 =>
  BIf (x16 == 1) (
   LoadT .slice ⟨n14, 1, none⟩ fun s17p s17l s17c =>
   CallT Go.Proofs.Try.prog 9 [.slice s17p s17l s17c] (.s (.one .slice)) fun s18p s18l s18c =>
   CallT Go.Proofs.Try.prog 8 [.pointer t_4, .slice s18p s18l s18c] (.tup []) <|
   F6_J1 k again9 t_4 out_5p out_5l out_5c ⟨n15, 0, none⟩ s6p s6l s6c x7 x8) (
   BIf (x16 == 2) (
    LoadT .slice ⟨n14, 1, none⟩ fun s30p s30l s30c =>
    CallT Go.Proofs.Try.prog 9 [.slice s30p s30l s30c] (.s (.one .slice)) fun s31p s31l s31c =>
    CallT Go.Proofs.Try.prog 10 [.pointer t_4, .slice s31p s31l s31c] (.s (.one .slice)) fun s32p s32l s32c =>
    Loop [.ptr, .slice, .addr, .slice, (.int .i64), (.int .i64), .slice, (.int .i64), (.int .i64)] (F6_L2 k again9) t_4 out_5p out_5l out_5c ⟨n15, 0, none⟩ s6p s6l s6c x7 x8 s32p s32l s32c ((s32l : Nat) : Int) 0) (
    BIf (x16 == 3) (
     LoadT .slice ⟨n14, 1, none⟩ fun s45p s45l s45c =>
     BIf (((s45l : Nat) : Int) == 0) (
      F6_J1 k again9 t_4 out_5p out_5l out_5c ⟨n15, 0, none⟩ s6p s6l s6c x7 x8) (
      LoadT .slice ⟨n14, 1, none⟩ fun s46p s46l s46c =>
      NN s46p fun a47 =>
      Req (0 ≤ (0 : Int) ∧ (0 : Int) < ((s46l : Nat) : Int)) <|
      LoadT (.int .i64) ((a47.add ((0 : Int).toNat * 2)).add 0) fun x48 =>
      LoadT (.int .i64) ((a47.add ((0 : Int).toNat * 2)).add 1) fun x49 =>
      CallT Go.Proofs.Try.prog 12 [.pointer t_4, .iface 54 (.agg #[.int .i64 x48, .int .i64 x49])] (.s (.one .any)) fun v50 =>
      Loop [.ptr, .slice, .addr, .addr, .any, .slice, (.int .i64), (.int .i64)] (F6_L3 k again9) t_4 out_5p out_5l out_5c ⟨n14, 0, none⟩ ⟨n15, 0, none⟩ v50 s6p s6l s6c x7 x8)) (
     BIf (x16 == 4) (
      CallT Go.Proofs.Try.prog 13 [.pointer t_4] (.s (.one (.int .u64))) fun x64 =>
      Store1 ⟨n15, 2, none⟩ (.int .u64 x64) <|
      F6_J1 k again9 t_4 out_5p out_5l out_5c ⟨n15, 0, none⟩ s6p s6l s6c x7 x8) (
      F6_J1 k again9 t_4 out_5p out_5l out_5c ⟨n15, 0, none⟩ s6p s6l s6c x7 x8))))) (
  k (.slice out_5p out_5l out_5c))
theorem F6_L1_rule {k : Value → W} (I : Option Addr → Option Addr → Nat → Nat → Option Addr → Nat → Nat → Int → Int → W) (μ : Option Addr → Option Addr → Nat → Nat → Option Addr → Nat → Nat → Int → Int → World → Nat)
  (hr : ∀ (t_4 : Option Addr) (out_5p : Option Addr) (out_5l : Nat) (out_5c : Nat) (s6p : Option Addr) (s6l : Nat) (s6c : Nat) (x7 : Int) (x8 : Int) (w : World), I t_4 out_5p out_5l out_5c s6p s6l s6c x7 x8 w → F6_L1 k (fun t_4' out_5p' out_5l' out_5c' s6p' s6l' s6c' x7' x8' w' => I t_4' out_5p' out_5l' out_5c' s6p' s6l' s6c' x7' x8' w' ∧ μ t_4' out_5p' out_5l' out_5c' s6p' s6l' s6c' x7' x8' w' < μ t_4 out_5p out_5l out_5c s6p s6l s6c x7 x8 w) t_4 out_5p out_5l out_5c s6p s6l s6c x7 x8 w)
  {w : World} {t_4 : Option Addr} {out_5p : Option Addr} {out_5l : Nat} {out_5c : Nat} {s6p : Option Addr} {s6l : Nat} {s6c : Nat} {x7 : Int} {x8 : Int} (h : I t_4 out_5p out_5l out_5c s6p s6l s6c x7 x8 w) : Loop [.ptr, .slice, .slice, (.int .i64), (.int .i64)] (F6_L1 k) t_4 out_5p out_5l out_5c s6p s6l s6c x7 x8 w :=
  Loop_intro (ts := [.ptr, .slice, .slice, (.int .i64), (.int .i64)]) (s := (t_4, (out_5p, out_5l, out_5c), (s6p, s6l, s6c), x7, x8, ())) (fun s w => I s.1 s.2.1.1 s.2.1.2.1 s.2.1.2.2 s.2.2.1.1 s.2.2.1.2.1 s.2.2.1.2.2 s.2.2.2.1 s.2.2.2.2.1 w) (fun s w => μ s.1 s.2.1.1 s.2.1.2.1 s.2.1.2.2 s.2.2.1.1 s.2.2.1.2.1 s.2.2.1.2.2 s.2.2.2.1 s.2.2.2.2.1 w) h (fun s w h => hr s.1 s.2.1.1 s.2.1.2.1 s.2.1.2.2 s.2.2.1.1 s.2.2.1.2.1 s.2.2.1.2.2 s.2.2.2.1 s.2.2.2.2.1 w h)
def F6 (k : Value → W) (size_1 : Int) (steps_2p : Option Addr) (steps_2l : Nat) (steps_2c : Nat) : W :=
 CallT Go.Proofs.Try.prog 7 [.int .u64 size_1] (.s (.one .ptr)) fun p3 =>
 Loop [.ptr, .slice, .slice, (.int .i64), (.int .i64)] (F6_L1 k) p3 none 0 0 steps_2p steps_2l steps_2c ((steps_2l : Nat) : Int) 0
theorem F6_eq (k : Value → W) (size_1 : Int) (steps_2p : Option Addr) (steps_2l : Nat) (steps_2c : Nat) : compF Go.Proofs.Try.prog Go.Proofs.Try.f6 [(4, [(5, .ptr), (6, .slice), (15, .slice), (16, (.int .i64)), (17, (.int .i64))]), (12, [(5, .ptr), (6, .slice), (9, .addr), (15, .slice), (16, (.int .i64)), (17, (.int .i64)), (36, .slice), (37, (.int .i64)), (38, (.int .i64))]), (19, [(5, .ptr), (6, .slice), (8, .addr), (9, .addr), (12, .any), (15, .slice), (16, (.int .i64)), (17, (.int .i64))])] (Go.Proofs.Try.f6.body.getD .skip) [.int .u64 size_1, .slice steps_2p steps_2l steps_2c] k = F6 k size_1 steps_2p steps_2l steps_2c := by kernel_rfl
theorem F6_calls {size_1 : Int} {steps_2p : Option Addr} {steps_2l : Nat} {steps_2c : Nat} {w : World} {R : Ending → World → Prop} (h : F6 (fun v w => R (.returned v) w) size_1 steps_2p steps_2l steps_2c w) : Calls Go.Proofs.Try.prog 6 #[.int .u64 size_1, .slice steps_2p steps_2l steps_2c] w R :=
  calls_of_compF noNum follows [(4, [(5, .ptr), (6, .slice), (15, .slice), (16, (.int .i64)), (17, (.int .i64))]), (12, [(5, .ptr), (6, .slice), (9, .addr), (15, .slice), (16, (.int .i64)), (17, (.int .i64)), (36, .slice), (37, (.int .i64)), (38, (.int .i64))]), (19, [(5, .ptr), (6, .slice), (8, .addr), (9, .addr), (12, .any), (15, .slice), (16, (.int .i64)), (17, (.int .i64))])] (f := 6) (fn := Go.Proofs.Try.f6) (body := Go.Proofs.Try.f6.body.getD .skip) (args := [.int .u64 size_1, .slice steps_2p steps_2l steps_2c]) rfl rfl (Nat.le_of_ble_eq_true rfl) ((congrFun (F6_eq _ size_1 steps_2p steps_2l steps_2c) w).mpr h)
theorem F6_call {size_1 : Int} {steps_2p : Option Addr} {steps_2l : Nat} {steps_2c : Nat} {w : World} {g : Fn W (RTy.leaves (.s (.one .slice)))} (h : F6 (fun v => Back (.s (.one .slice)) g (.returned v)) size_1 steps_2p steps_2l steps_2c w) : CallT Go.Proofs.Try.prog 6 [.int .u64 size_1, .slice steps_2p steps_2l steps_2c] (.s (.one .slice)) g w := F6_calls h

/-! ## laws.deepWords -/
def F4_L2 (k : Value → W) (again5 : Option Addr → Nat → Nat → Option Addr → Nat → Nat → Int → W) (again11 : Option Addr → Nat → Nat → Option Addr → Nat → Nat → Int → Bool → Int → W) (keys_6p : Option Addr) (keys_6l : Nat) (keys_6c : Nat) (out_7p : Option Addr) (out_7l : Nat) (out_7c : Nat) (i_8 : Int) (there_9 : Bool) (k_10 : Int) : W :=
 BIf (decide (k_10 < ((out_7l : Nat) : Int))) (
  Drw <|
  BIf there_9 (
   again11 keys_6p keys_6l keys_6c out_7p out_7l out_7c i_8 true (addI .i64 k_10 1)) (
   NN out_7p fun a12 =>
   Req (0 ≤ k_10 ∧ k_10 < ((out_7l : Nat) : Int)) <|
   LoadT (.int .i64) (a12.add (k_10.toNat * 2)) fun x13 =>
   NN keys_6p fun a14 =>
   Req (0 ≤ i_8 ∧ i_8 < ((keys_6l : Nat) : Int)) <|
   LoadT (.int .i64) (a14.add i_8.toNat) fun x15 =>
   again11 keys_6p keys_6l keys_6c out_7p out_7l out_7c i_8 (x13 == x15) (addI .i64 k_10 1))) (
  BIf (!there_9) (
   NN keys_6p fun a16 =>
   Req (0 ≤ i_8 ∧ i_8 < ((keys_6l : Nat) : Int)) <|
   LoadT (.int .i64) (a16.add i_8.toNat) fun x17 =>
   RawT Go.Proofs.Try.prog (Instr.buildSlice 23 1 [(0, .agg #[.int .i64 x17, .int .i64 (addI .i64 i_8 1)])].toArray) (.s (.one .slice)) fun s18p s18l s18c =>
   NextT Go.Proofs.Try.prog (builtin .append #[23, 23] 23 [false, false].toArray [.slice out_7p out_7l out_7c, .slice s18p s18l s18c].toArray) (.s (.one .slice)) fun s19p s19l s19c =>
   again5 keys_6p keys_6l keys_6c s19p s19l s19c (addI .i64 i_8 1)) (
   again5 keys_6p keys_6l keys_6c out_7p out_7l out_7c (addI .i64 i_8 1)))
theorem F4_L2_rule {k : Value → W} {again5 : Option Addr → Nat → Nat → Option Addr → Nat → Nat → Int → W} (I : Option Addr → Nat → Nat → Option Addr → Nat → Nat → Int → Bool → Int → W) (μ : Option Addr → Nat → Nat → Option Addr → Nat → Nat → Int → Bool → Int → World → Nat)
  (hr : ∀ (keys_6p : Option Addr) (keys_6l : Nat) (keys_6c : Nat) (out_7p : Option Addr) (out_7l : Nat) (out_7c : Nat) (i_8 : Int) (there_9 : Bool) (k_10 : Int) (w : World), I keys_6p keys_6l keys_6c out_7p out_7l out_7c i_8 there_9 k_10 w → F4_L2 k again5 (fun keys_6p' keys_6l' keys_6c' out_7p' out_7l' out_7c' i_8' there_9' k_10' w' => I keys_6p' keys_6l' keys_6c' out_7p' out_7l' out_7c' i_8' there_9' k_10' w' ∧ μ keys_6p' keys_6l' keys_6c' out_7p' out_7l' out_7c' i_8' there_9' k_10' w' < μ keys_6p keys_6l keys_6c out_7p out_7l out_7c i_8 there_9 k_10 w) keys_6p keys_6l keys_6c out_7p out_7l out_7c i_8 there_9 k_10 w)
  {w : World} {keys_6p : Option Addr} {keys_6l : Nat} {keys_6c : Nat} {out_7p : Option Addr} {out_7l : Nat} {out_7c : Nat} {i_8 : Int} {there_9 : Bool} {k_10 : Int} (h : I keys_6p keys_6l keys_6c out_7p out_7l out_7c i_8 there_9 k_10 w) : Loop [.slice, .slice, (.int .i64), .bool, (.int .i64)] (F4_L2 k again5) keys_6p keys_6l keys_6c out_7p out_7l out_7c i_8 there_9 k_10 w :=
  Loop_intro (ts := [.slice, .slice, (.int .i64), .bool, (.int .i64)]) (s := ((keys_6p, keys_6l, keys_6c), (out_7p, out_7l, out_7c), i_8, there_9, k_10, ())) (fun s w => I s.1.1 s.1.2.1 s.1.2.2 s.2.1.1 s.2.1.2.1 s.2.1.2.2 s.2.2.1 s.2.2.2.1 s.2.2.2.2.1 w) (fun s w => μ s.1.1 s.1.2.1 s.1.2.2 s.2.1.1 s.2.1.2.1 s.2.1.2.2 s.2.2.1 s.2.2.2.1 s.2.2.2.2.1 w) h (fun s w h => hr s.1.1 s.1.2.1 s.1.2.2 s.2.1.1 s.2.1.2.1 s.2.1.2.2 s.2.2.1 s.2.2.2.1 s.2.2.2.2.1 w h)
def F4_L1 (k : Value → W) (again5 : Option Addr → Nat → Nat → Option Addr → Nat → Nat → Int → W) (keys_2p : Option Addr) (keys_2l : Nat) (keys_2c : Nat) (out_3p : Option Addr) (out_3l : Nat) (out_3c : Nat) (i_4 : Int) : W :=
 BIf (decide (i_4 < ((keys_2l : Nat) : Int))) (
  BIf (decide (i_4 < 40)) (
   Loop [.slice, .slice, (.int .i64), .bool, (.int .i64)] (F4_L2 k again5) keys_2p keys_2l keys_2c out_3p out_3l out_3c i_4 false 0) (
   k (.slice out_3p out_3l out_3c))) (
  k (.slice out_3p out_3l out_3c))
theorem F4_L1_rule {k : Value → W} (I : Option Addr → Nat → Nat → Option Addr → Nat → Nat → Int → W) (μ : Option Addr → Nat → Nat → Option Addr → Nat → Nat → Int → World → Nat)
  (hr : ∀ (keys_2p : Option Addr) (keys_2l : Nat) (keys_2c : Nat) (out_3p : Option Addr) (out_3l : Nat) (out_3c : Nat) (i_4 : Int) (w : World), I keys_2p keys_2l keys_2c out_3p out_3l out_3c i_4 w → F4_L1 k (fun keys_2p' keys_2l' keys_2c' out_3p' out_3l' out_3c' i_4' w' => I keys_2p' keys_2l' keys_2c' out_3p' out_3l' out_3c' i_4' w' ∧ μ keys_2p' keys_2l' keys_2c' out_3p' out_3l' out_3c' i_4' w' < μ keys_2p keys_2l keys_2c out_3p out_3l out_3c i_4 w) keys_2p keys_2l keys_2c out_3p out_3l out_3c i_4 w)
  {w : World} {keys_2p : Option Addr} {keys_2l : Nat} {keys_2c : Nat} {out_3p : Option Addr} {out_3l : Nat} {out_3c : Nat} {i_4 : Int} (h : I keys_2p keys_2l keys_2c out_3p out_3l out_3c i_4 w) : Loop [.slice, .slice, (.int .i64)] (F4_L1 k) keys_2p keys_2l keys_2c out_3p out_3l out_3c i_4 w :=
  Loop_intro (ts := [.slice, .slice, (.int .i64)]) (s := ((keys_2p, keys_2l, keys_2c), (out_3p, out_3l, out_3c), i_4, ())) (fun s w => I s.1.1 s.1.2.1 s.1.2.2 s.2.1.1 s.2.1.2.1 s.2.1.2.2 s.2.2.1 w) (fun s w => μ s.1.1 s.1.2.1 s.1.2.2 s.2.1.1 s.2.1.2.1 s.2.1.2.2 s.2.2.1 w) h (fun s w h => hr s.1.1 s.1.2.1 s.1.2.2 s.2.1.1 s.2.1.2.1 s.2.1.2.2 s.2.2.1 w h)
def F4 (k : Value → W) (keys_1p : Option Addr) (keys_1l : Nat) (keys_1c : Nat) : W :=
 Loop [.slice, .slice, (.int .i64)] (F4_L1 k) keys_1p keys_1l keys_1c none 0 0 0
theorem F4_eq (k : Value → W) (keys_1p : Option Addr) (keys_1l : Nat) (keys_1c : Nat) : compF Go.Proofs.Try.prog Go.Proofs.Try.f4 [(3, [(0, .slice), (3, .slice), (4, (.int .i64))]), (7, [(0, .slice), (3, .slice), (4, (.int .i64)), (5, .bool), (6, (.int .i64))])] (Go.Proofs.Try.f4.body.getD .skip) [.slice keys_1p keys_1l keys_1c] k = F4 k keys_1p keys_1l keys_1c := by kernel_rfl
theorem F4_calls {keys_1p : Option Addr} {keys_1l : Nat} {keys_1c : Nat} {w : World} {R : Ending → World → Prop} (h : F4 (fun v w => R (.returned v) w) keys_1p keys_1l keys_1c w) : Calls Go.Proofs.Try.prog 4 #[.slice keys_1p keys_1l keys_1c] w R :=
  calls_of_compF noNum follows [(3, [(0, .slice), (3, .slice), (4, (.int .i64))]), (7, [(0, .slice), (3, .slice), (4, (.int .i64)), (5, .bool), (6, (.int .i64))])] (f := 4) (fn := Go.Proofs.Try.f4) (body := Go.Proofs.Try.f4.body.getD .skip) (args := [.slice keys_1p keys_1l keys_1c]) rfl rfl (Nat.le_of_ble_eq_true rfl) ((congrFun (F4_eq _ keys_1p keys_1l keys_1c) w).mpr h)
theorem F4_call {keys_1p : Option Addr} {keys_1l : Nat} {keys_1c : Nat} {w : World} {g : Fn W (RTy.leaves (.s (.one .slice)))} (h : F4 (fun v => Back (.s (.one .slice)) g (.returned v)) keys_1p keys_1l keys_1c w) : CallT Go.Proofs.Try.prog 4 [.slice keys_1p keys_1l keys_1c] (.s (.one .slice)) g w := F4_calls h

/-! ## laws.deepGot -/
def F5_J1 (k : Value → W) (l_17p : Option Addr) (l_17l : Nat) (l_17c : Nat) (b18 : Bool) : W :=
 BIf b18 (
  k (.tuple #[.slice none 0 0, .slice none 0 0, .int .u64 0, .bool false])) (
  Drw <|
  NN l_17p fun a19 =>
  Req (0 ≤ subI .i64 ((l_17l : Nat) : Int) 2 ∧ subI .i64 ((l_17l : Nat) : Int) 2 < ((l_17l : Nat) : Int)) <|
  LoadT .slice (a19.add ((subI .i64 ((l_17l : Nat) : Int) 2).toNat * 3)) fun s20p s20l s20c =>
  NN l_17p fun a21 =>
  Req (0 ≤ subI .i64 ((l_17l : Nat) : Int) 2 ∧ subI .i64 ((l_17l : Nat) : Int) 2 < ((l_17l : Nat) : Int)) <|
  LoadT .slice ((a21.add ((subI .i64 ((l_17l : Nat) : Int) 2).toNat * 3)).add 1) fun s22p s22l s22c =>
  NN l_17p fun a23 =>
  Req (0 ≤ subI .i64 ((l_17l : Nat) : Int) 1 ∧ subI .i64 ((l_17l : Nat) : Int) 1 < ((l_17l : Nat) : Int)) <|
  LoadT (.int .u64) ((a23.add ((subI .i64 ((l_17l : Nat) : Int) 1).toNat * 3)).add 2) fun x24 =>
  k (.tuple #[.slice s20p s20l s20c, .slice s22p s22l s22c, .int .u64 x24, .bool true]))
def F5_L1 (k : Value → W) (again9 : Int → Option Addr → Nat → Nat → Option Addr → Nat → Nat → Option Addr → Nat → Nat → Int → W) (size_4 : Int) (calls_5p : Option Addr) (calls_5l : Nat) (calls_5c : Nat) (ask_6p : Option Addr) (ask_6l : Nat) (ask_6c : Nat) (steps_7p : Option Addr) (steps_7l : Nat) (steps_7c : Nat) (i_8 : Int) : W :=
 BIf (decide (i_8 < ((calls_5l : Nat) : Int))) (
  NN calls_5p fun a10 =>
  Req (0 ≤ i_8 ∧ i_8 < ((calls_5l : Nat) : Int)) <|
  LoadT .slice (a10.add i_8.toNat) fun s11p s11l s11c =>
  RawT Go.Proofs.Try.prog (Instr.buildSlice 33 1 [(0, .agg #[.int .i64 1, .slice s11p s11l s11c, .int .i64 0])].toArray) (.s (.one .slice)) fun s12p s12l s12c =>
  NextT Go.Proofs.Try.prog (builtin .append #[33, 33] 33 [false, false].toArray [.slice steps_7p steps_7l steps_7c, .slice s12p s12l s12c].toArray) (.s (.one .slice)) fun s13p s13l s13c =>
  again9 size_4 calls_5p calls_5l calls_5c ask_6p ask_6l ask_6c s13p s13l s13c (addI .i64 i_8 1)) (
  RawT Go.Proofs.Try.prog (Instr.buildSlice 33 2 [(0, .agg #[.int .i64 2, .slice ask_6p ask_6l ask_6c, .int .i64 0]), (1, .agg #[.int .i64 4, .slice none 0 0, .int .i64 0])].toArray) (.s (.one .slice)) fun s14p s14l s14c =>
  NextT Go.Proofs.Try.prog (builtin .append #[33, 33] 33 [false, false].toArray [.slice steps_7p steps_7l steps_7c, .slice s14p s14l s14c].toArray) (.s (.one .slice)) fun s15p s15l s15c =>
  CallT Go.Proofs.Try.prog 6 [.int .u64 size_4, .slice s15p s15l s15c] (.s (.one .slice)) fun s16p s16l s16c =>
  BIf (((s16l : Nat) : Int) != ((s15l : Nat) : Int)) (
   F5_J1 k s16p s16l s16c true) (
   NN s16p fun a25 =>
   Req (0 ≤ subI .i64 ((s16l : Nat) : Int) 2 ∧ subI .i64 ((s16l : Nat) : Int) 2 < ((s16l : Nat) : Int)) <|
   LoadT .slice (a25.add ((subI .i64 ((s16l : Nat) : Int) 2).toNat * 3)) fun s26p s26l s26c =>
   BIf (((s26l : Nat) : Int) != ((ask_6l : Nat) : Int)) (
    F5_J1 k s16p s16l s16c true) (
    NN s16p fun a27 =>
    Req (0 ≤ subI .i64 ((s16l : Nat) : Int) 2 ∧ subI .i64 ((s16l : Nat) : Int) 2 < ((s16l : Nat) : Int)) <|
    LoadT .slice ((a27.add ((subI .i64 ((s16l : Nat) : Int) 2).toNat * 3)).add 1) fun s28p s28l s28c =>
    F5_J1 k s16p s16l s16c (((s28l : Nat) : Int) != ((ask_6l : Nat) : Int)))))
theorem F5_L1_rule {k : Value → W} (I : Int → Option Addr → Nat → Nat → Option Addr → Nat → Nat → Option Addr → Nat → Nat → Int → W) (μ : Int → Option Addr → Nat → Nat → Option Addr → Nat → Nat → Option Addr → Nat → Nat → Int → World → Nat)
  (hr : ∀ (size_4 : Int) (calls_5p : Option Addr) (calls_5l : Nat) (calls_5c : Nat) (ask_6p : Option Addr) (ask_6l : Nat) (ask_6c : Nat) (steps_7p : Option Addr) (steps_7l : Nat) (steps_7c : Nat) (i_8 : Int) (w : World), I size_4 calls_5p calls_5l calls_5c ask_6p ask_6l ask_6c steps_7p steps_7l steps_7c i_8 w → F5_L1 k (fun size_4' calls_5p' calls_5l' calls_5c' ask_6p' ask_6l' ask_6c' steps_7p' steps_7l' steps_7c' i_8' w' => I size_4' calls_5p' calls_5l' calls_5c' ask_6p' ask_6l' ask_6c' steps_7p' steps_7l' steps_7c' i_8' w' ∧ μ size_4' calls_5p' calls_5l' calls_5c' ask_6p' ask_6l' ask_6c' steps_7p' steps_7l' steps_7c' i_8' w' < μ size_4 calls_5p calls_5l calls_5c ask_6p ask_6l ask_6c steps_7p steps_7l steps_7c i_8 w) size_4 calls_5p calls_5l calls_5c ask_6p ask_6l ask_6c steps_7p steps_7l steps_7c i_8 w)
  {w : World} {size_4 : Int} {calls_5p : Option Addr} {calls_5l : Nat} {calls_5c : Nat} {ask_6p : Option Addr} {ask_6l : Nat} {ask_6c : Nat} {steps_7p : Option Addr} {steps_7l : Nat} {steps_7c : Nat} {i_8 : Int} (h : I size_4 calls_5p calls_5l calls_5c ask_6p ask_6l ask_6c steps_7p steps_7l steps_7c i_8 w) : Loop [(.int .u64), .slice, .slice, .slice, (.int .i64)] (F5_L1 k) size_4 calls_5p calls_5l calls_5c ask_6p ask_6l ask_6c steps_7p steps_7l steps_7c i_8 w :=
  Loop_intro (ts := [(.int .u64), .slice, .slice, .slice, (.int .i64)]) (s := (size_4, (calls_5p, calls_5l, calls_5c), (ask_6p, ask_6l, ask_6c), (steps_7p, steps_7l, steps_7c), i_8, ())) (fun s w => I s.1 s.2.1.1 s.2.1.2.1 s.2.1.2.2 s.2.2.1.1 s.2.2.1.2.1 s.2.2.1.2.2 s.2.2.2.1.1 s.2.2.2.1.2.1 s.2.2.2.1.2.2 s.2.2.2.2.1 w) (fun s w => μ s.1 s.2.1.1 s.2.1.2.1 s.2.1.2.2 s.2.2.1.1 s.2.2.1.2.1 s.2.2.1.2.2 s.2.2.2.1.1 s.2.2.2.1.2.1 s.2.2.2.1.2.2 s.2.2.2.2.1 w) h (fun s w h => hr s.1 s.2.1.1 s.2.1.2.1 s.2.1.2.2 s.2.2.1.1 s.2.2.1.2.1 s.2.2.1.2.2 s.2.2.2.1.1 s.2.2.2.1.2.1 s.2.2.2.1.2.2 s.2.2.2.2.1 w h)
def F5 (k : Value → W) (size_1 : Int) (calls_2p : Option Addr) (calls_2l : Nat) (calls_2c : Nat) (ask_3p : Option Addr) (ask_3l : Nat) (ask_3c : Nat) : W :=
 Loop [(.int .u64), .slice, .slice, .slice, (.int .i64)] (F5_L1 k) size_1 calls_2p calls_2l calls_2c ask_3p ask_3l ask_3c none 0 0 0
theorem F5_eq (k : Value → W) (size_1 : Int) (calls_2p : Option Addr) (calls_2l : Nat) (calls_2c : Nat) (ask_3p : Option Addr) (ask_3l : Nat) (ask_3c : Nat) : compF Go.Proofs.Try.prog Go.Proofs.Try.f5 [(3, [(0, (.int .u64)), (1, .slice), (2, .slice), (10, .slice), (11, (.int .i64))])] (Go.Proofs.Try.f5.body.getD .skip) [.int .u64 size_1, .slice calls_2p calls_2l calls_2c, .slice ask_3p ask_3l ask_3c] k = F5 k size_1 calls_2p calls_2l calls_2c ask_3p ask_3l ask_3c := by kernel_rfl
theorem F5_calls {size_1 : Int} {calls_2p : Option Addr} {calls_2l : Nat} {calls_2c : Nat} {ask_3p : Option Addr} {ask_3l : Nat} {ask_3c : Nat} {w : World} {R : Ending → World → Prop} (h : F5 (fun v w => R (.returned v) w) size_1 calls_2p calls_2l calls_2c ask_3p ask_3l ask_3c w) : Calls Go.Proofs.Try.prog 5 #[.int .u64 size_1, .slice calls_2p calls_2l calls_2c, .slice ask_3p ask_3l ask_3c] w R :=
  calls_of_compF noNum follows [(3, [(0, (.int .u64)), (1, .slice), (2, .slice), (10, .slice), (11, (.int .i64))])] (f := 5) (fn := Go.Proofs.Try.f5) (body := Go.Proofs.Try.f5.body.getD .skip) (args := [.int .u64 size_1, .slice calls_2p calls_2l calls_2c, .slice ask_3p ask_3l ask_3c]) rfl rfl (Nat.le_of_ble_eq_true rfl) ((congrFun (F5_eq _ size_1 calls_2p calls_2l calls_2c ask_3p ask_3l ask_3c) w).mpr h)
theorem F5_call {size_1 : Int} {calls_2p : Option Addr} {calls_2l : Nat} {calls_2c : Nat} {ask_3p : Option Addr} {ask_3l : Nat} {ask_3c : Nat} {w : World} {g : Fn W (RTy.leaves (.tup [(.one .slice), (.one .slice), (.one (.int .u64)), (.one .bool)]))} (h : F5 (fun v => Back (.tup [(.one .slice), (.one .slice), (.one (.int .u64)), (.one .bool)]) g (.returned v)) size_1 calls_2p calls_2l calls_2c ask_3p ask_3l ask_3c w) : CallT Go.Proofs.Try.prog 5 [.int .u64 size_1, .slice calls_2p calls_2l calls_2c, .slice ask_3p ask_3l ask_3c] (.tup [(.one .slice), (.one .slice), (.one (.int .u64)), (.one .bool)]) g w := F5_calls h

/-! ## laws.FnPTOrder -/
def F3_L3 (k : Value → W) (again49 : Option Addr → Nat → Nat → Option Addr → Nat → Nat → Option Addr → Nat → Nat → Option Addr → Nat → Nat → Option Addr → Nat → Nat → Option Addr → Nat → Nat → Int → W) (own_42p : Option Addr) (own_42l : Nat) (own_42c : Nat) (ask_43p : Option Addr) (ask_43l : Nat) (ask_43c : Nat) (a_44p : Option Addr) (a_44l : Nat) (a_44c : Nat) (has_45p : Option Addr) (has_45l : Nat) (has_45c : Nat) (b_46p : Option Addr) (b_46l : Nat) (b_46c : Nat) (had_47p : Option Addr) (had_47l : Nat) (had_47c : Nat) (i_48 : Int) : W :=
 BIf (decide (i_48 < ((ask_43l : Nat) : Int))) (
  Drw <|
  NN has_45p fun a50 =>
  Req (0 ≤ i_48 ∧ i_48 < ((has_45l : Nat) : Int)) <|
  LoadT .bool (a50.add i_48.toNat) fun b51 =>
  NN had_47p fun a52 =>
  Req (0 ≤ i_48 ∧ i_48 < ((had_47l : Nat) : Int)) <|
  LoadT .bool (a52.add i_48.toNat) fun b53 =>
  BIf (!(b51 == b53)) (
   k (.bool false)) (
   NN has_45p fun a54 =>
   Req (0 ≤ i_48 ∧ i_48 < ((has_45l : Nat) : Int)) <|
   LoadT .bool (a54.add i_48.toNat) fun b55 =>
   BIf b55 (
    NN a_44p fun a56 =>
    Req (0 ≤ i_48 ∧ i_48 < ((a_44l : Nat) : Int)) <|
    LoadT (.int .i64) ((a56.add (i_48.toNat * 2)).add 0) fun x57 =>
    LoadT (.int .i64) ((a56.add (i_48.toNat * 2)).add 1) fun x58 =>
    NN b_46p fun a59 =>
    Req (0 ≤ i_48 ∧ i_48 < ((b_46l : Nat) : Int)) <|
    LoadT (.int .i64) ((a59.add (i_48.toNat * 2)).add 0) fun x60 =>
    LoadT (.int .i64) ((a59.add (i_48.toNat * 2)).add 1) fun x61 =>
    RawS Go.Proofs.Try.prog (binS .neq 26 (.tmp 139) (.tmp 143) (.agg #[.int .i64 x57, .int .i64 x58]) (.agg #[.int .i64 x60, .int .i64 x61])) (.s (.one .bool)) fun b62 =>
    Chk1 (a54.add i_48.toNat) (.bool b55) <|
    Chk1 (a52.add i_48.toNat) (.bool b53) <|
    Chk1 (a50.add i_48.toNat) (.bool b51) <|
    BIf b62 (
     k (.bool false)) (
     BIf (decide (i_48 < ((own_42l : Nat) : Int))) (
      NN has_45p fun a63 =>
      Req (0 ≤ i_48 ∧ i_48 < ((has_45l : Nat) : Int)) <|
      LoadT .bool (a63.add i_48.toNat) fun b64 =>
      BIf (!b64) (
       k (.bool false)) (
       NN a_44p fun a65 =>
       Req (0 ≤ i_48 ∧ i_48 < ((a_44l : Nat) : Int)) <|
       LoadT (.int .i64) ((a65.add (i_48.toNat * 2)).add 0) fun x66 =>
       LoadT (.int .i64) ((a65.add (i_48.toNat * 2)).add 1) fun x67 =>
       NN own_42p fun a68 =>
       Req (0 ≤ i_48 ∧ i_48 < ((own_42l : Nat) : Int)) <|
       LoadT (.int .i64) ((a68.add (i_48.toNat * 2)).add 0) fun x69 =>
       LoadT (.int .i64) ((a68.add (i_48.toNat * 2)).add 1) fun x70 =>
       RawS Go.Proofs.Try.prog (binS .neq 26 (.tmp 162) (.tmp 166) (.agg #[.int .i64 x66, .int .i64 x67]) (.agg #[.int .i64 x69, .int .i64 x70])) (.s (.one .bool)) fun b71 =>
       Chk1 (a63.add i_48.toNat) (.bool b64) <|
       Chk1 ((a59.add (i_48.toNat * 2)).add 0) (.int .i64 x60) <|
       Chk1 ((a59.add (i_48.toNat * 2)).add 1) (.int .i64 x61) <|
       Chk1 ((a56.add (i_48.toNat * 2)).add 0) (.int .i64 x57) <|
       Chk1 ((a56.add (i_48.toNat * 2)).add 1) (.int .i64 x58) <|
       Chk1 (a54.add i_48.toNat) (.bool b55) <|
       Chk1 (a52.add i_48.toNat) (.bool b53) <|
       Chk1 (a50.add i_48.toNat) (.bool b51) <|
       BIf b71 (
        k (.bool false)) (
        again49 own_42p own_42l own_42c ask_43p ask_43l ask_43c a_44p a_44l a_44c has_45p has_45l has_45c b_46p b_46l b_46c had_47p had_47l had_47c (addI .i64 i_48 1)))) (
      again49 own_42p own_42l own_42c ask_43p ask_43l ask_43c a_44p a_44l a_44c has_45p has_45l has_45c b_46p b_46l b_46c had_47p had_47l had_47c (addI .i64 i_48 1)))) (
    BIf (decide (i_48 < ((own_42l : Nat) : Int))) (
     NN has_45p fun a72 =>
     Req (0 ≤ i_48 ∧ i_48 < ((has_45l : Nat) : Int)) <|
     LoadT .bool (a72.add i_48.toNat) fun b73 =>
     BIf (!b73) (
      k (.bool false)) (
      NN a_44p fun a74 =>
      Req (0 ≤ i_48 ∧ i_48 < ((a_44l : Nat) : Int)) <|
      LoadT (.int .i64) ((a74.add (i_48.toNat * 2)).add 0) fun x75 =>
      LoadT (.int .i64) ((a74.add (i_48.toNat * 2)).add 1) fun x76 =>
      NN own_42p fun a77 =>
      Req (0 ≤ i_48 ∧ i_48 < ((own_42l : Nat) : Int)) <|
      LoadT (.int .i64) ((a77.add (i_48.toNat * 2)).add 0) fun x78 =>
      LoadT (.int .i64) ((a77.add (i_48.toNat * 2)).add 1) fun x79 =>
      RawS Go.Proofs.Try.prog (binS .neq 26 (.tmp 162) (.tmp 166) (.agg #[.int .i64 x75, .int .i64 x76]) (.agg #[.int .i64 x78, .int .i64 x79])) (.s (.one .bool)) fun b80 =>
      Chk1 (a72.add i_48.toNat) (.bool b73) <|
      Chk1 (a54.add i_48.toNat) (.bool b55) <|
      Chk1 (a52.add i_48.toNat) (.bool b53) <|
      Chk1 (a50.add i_48.toNat) (.bool b51) <|
      BIf b80 (
       k (.bool false)) (
       again49 own_42p own_42l own_42c ask_43p ask_43l ask_43c a_44p a_44l a_44c has_45p has_45l has_45c b_46p b_46l b_46c had_47p had_47l had_47c (addI .i64 i_48 1)))) (
     again49 own_42p own_42l own_42c ask_43p ask_43l ask_43c a_44p a_44l a_44c has_45p has_45l has_45c b_46p b_46l b_46c had_47p had_47l had_47c (addI .i64 i_48 1))))) (
  k (.bool true))
theorem F3_L3_rule {k : Value → W} (I : Option Addr → Nat → Nat → Option Addr → Nat → Nat → Option Addr → Nat → Nat → Option Addr → Nat → Nat → Option Addr → Nat → Nat → Option Addr → Nat → Nat → Int → W) (μ : Option Addr → Nat → Nat → Option Addr → Nat → Nat → Option Addr → Nat → Nat → Option Addr → Nat → Nat → Option Addr → Nat → Nat → Option Addr → Nat → Nat → Int → World → Nat)
  (hr : ∀ (own_42p : Option Addr) (own_42l : Nat) (own_42c : Nat) (ask_43p : Option Addr) (ask_43l : Nat) (ask_43c : Nat) (a_44p : Option Addr) (a_44l : Nat) (a_44c : Nat) (has_45p : Option Addr) (has_45l : Nat) (has_45c : Nat) (b_46p : Option Addr) (b_46l : Nat) (b_46c : Nat) (had_47p : Option Addr) (had_47l : Nat) (had_47c : Nat) (i_48 : Int) (w : World), I own_42p own_42l own_42c ask_43p ask_43l ask_43c a_44p a_44l a_44c has_45p has_45l has_45c b_46p b_46l b_46c had_47p had_47l had_47c i_48 w → F3_L3 k (fun own_42p' own_42l' own_42c' ask_43p' ask_43l' ask_43c' a_44p' a_44l' a_44c' has_45p' has_45l' has_45c' b_46p' b_46l' b_46c' had_47p' had_47l' had_47c' i_48' w' => I own_42p' own_42l' own_42c' ask_43p' ask_43l' ask_43c' a_44p' a_44l' a_44c' has_45p' has_45l' has_45c' b_46p' b_46l' b_46c' had_47p' had_47l' had_47c' i_48' w' ∧ μ own_42p' own_42l' own_42c' ask_43p' ask_43l' ask_43c' a_44p' a_44l' a_44c' has_45p' has_45l' has_45c' b_46p' b_46l' b_46c' had_47p' had_47l' had_47c' i_48' w' < μ own_42p own_42l own_42c ask_43p ask_43l ask_43c a_44p a_44l a_44c has_45p has_45l has_45c b_46p b_46l b_46c had_47p had_47l had_47c i_48 w) own_42p own_42l own_42c ask_43p ask_43l ask_43c a_44p a_44l a_44c has_45p has_45l has_45c b_46p b_46l b_46c had_47p had_47l had_47c i_48 w)
  {w : World} {own_42p : Option Addr} {own_42l : Nat} {own_42c : Nat} {ask_43p : Option Addr} {ask_43l : Nat} {ask_43c : Nat} {a_44p : Option Addr} {a_44l : Nat} {a_44c : Nat} {has_45p : Option Addr} {has_45l : Nat} {has_45c : Nat} {b_46p : Option Addr} {b_46l : Nat} {b_46c : Nat} {had_47p : Option Addr} {had_47l : Nat} {had_47c : Nat} {i_48 : Int} (h : I own_42p own_42l own_42c ask_43p ask_43l ask_43c a_44p a_44l a_44c has_45p has_45l has_45c b_46p b_46l b_46c had_47p had_47l had_47c i_48 w) : Loop [.slice, .slice, .slice, .slice, .slice, .slice, (.int .i64)] (F3_L3 k) own_42p own_42l own_42c ask_43p ask_43l ask_43c a_44p a_44l a_44c has_45p has_45l has_45c b_46p b_46l b_46c had_47p had_47l had_47c i_48 w :=
  Loop_intro (ts := [.slice, .slice, .slice, .slice, .slice, .slice, (.int .i64)]) (s := ((own_42p, own_42l, own_42c), (ask_43p, ask_43l, ask_43c), (a_44p, a_44l, a_44c), (has_45p, has_45l, has_45c), (b_46p, b_46l, b_46c), (had_47p, had_47l, had_47c), i_48, ())) (fun s w => I s.1.1 s.1.2.1 s.1.2.2 s.2.1.1 s.2.1.2.1 s.2.1.2.2 s.2.2.1.1 s.2.2.1.2.1 s.2.2.1.2.2 s.2.2.2.1.1 s.2.2.2.1.2.1 s.2.2.2.1.2.2 s.2.2.2.2.1.1 s.2.2.2.2.1.2.1 s.2.2.2.2.1.2.2 s.2.2.2.2.2.1.1 s.2.2.2.2.2.1.2.1 s.2.2.2.2.2.1.2.2 s.2.2.2.2.2.2.1 w) (fun s w => μ s.1.1 s.1.2.1 s.1.2.2 s.2.1.1 s.2.1.2.1 s.2.1.2.2 s.2.2.1.1 s.2.2.1.2.1 s.2.2.1.2.2 s.2.2.2.1.1 s.2.2.2.1.2.1 s.2.2.2.1.2.2 s.2.2.2.2.1.1 s.2.2.2.2.1.2.1 s.2.2.2.2.1.2.2 s.2.2.2.2.2.1.1 s.2.2.2.2.2.1.2.1 s.2.2.2.2.2.1.2.2 s.2.2.2.2.2.2.1 w) h (fun s w h => hr s.1.1 s.1.2.1 s.1.2.2 s.2.1.1 s.2.1.2.1 s.2.1.2.2 s.2.2.1.1 s.2.2.1.2.1 s.2.2.1.2.2 s.2.2.2.1.1 s.2.2.2.1.2.1 s.2.2.2.1.2.2 s.2.2.2.2.1.1 s.2.2.2.2.1.2.1 s.2.2.2.2.1.2.2 s.2.2.2.2.2.1.1 s.2.2.2.2.2.1.2.1 s.2.2.2.2.2.1.2.2 s.2.2.2.2.2.2.1 w h)
def F3_L2 (k : Value → W) (again30 : Int → Int → Option Addr → Nat → Nat → Option Addr → Nat → Nat → Option Addr → Nat → Nat → Int → W) (one_24 : Int) (two_25 : Int) (own_26p : Option Addr) (own_26l : Nat) (own_26c : Nat) (ask_27p : Option Addr) (ask_27l : Nat) (ask_27c : Nat) (back_28p : Option Addr) (back_28l : Nat) (back_28c : Nat) (i_29 : Int) : W :=
 BIf (decide (i_29 ≥ 0)) (
  Req (0 ≤ addI .i64 i_29 1 ∧ addI .i64 i_29 1 ≤ ((own_26c : Nat) : Int)) <|
  Req (0 ≤ i_29 ∧ i_29 ≤ (((addI .i64 i_29 1).toNat : Nat) : Int)) <|
  RawT Go.Proofs.Try.prog (Instr.buildSlice 27 1 [(0, .slice (sliceA own_26p i_29.toNat own_26c 2) (((addI .i64 i_29 1).toNat) - i_29.toNat) (own_26c - i_29.toNat))].toArray) (.s (.one .slice)) fun s31p s31l s31c =>
  NextT Go.Proofs.Try.prog (builtin .append #[27, 27] 27 [false, false].toArray [.slice back_28p back_28l back_28c, .slice s31p s31l s31c].toArray) (.s (.one .slice)) fun s32p s32l s32c =>
  again30 one_24 two_25 own_26p own_26l own_26c ask_27p ask_27l ask_27c s32p s32l s32c (subI .i64 i_29 1)) (
  Req (10 ≠ (0 : Int)) <|
  RawT Go.Proofs.Try.prog (Instr.buildSlice 27 1 [(0, .slice own_26p own_26l own_26c)].toArray) (.s (.one .slice)) fun s33p s33l s33c =>
  CallT Go.Proofs.Try.prog 5 [.int .u64 (addI .u64 3 (remI (IntKind.wrap .u64 one_24) 10)), .slice s33p s33l s33c, .slice ask_27p ask_27l ask_27c] (.tup [(.one .slice), (.one .slice), (.one (.int .u64)), (.one .bool)]) fun s34p s34l s34c s35p s35l s35c x36 b37 =>
  Req (10 ≠ (0 : Int)) <|
  CallT Go.Proofs.Try.prog 5 [.int .u64 (addI .u64 3 (remI (IntKind.wrap .u64 two_25) 10)), .slice back_28p back_28l back_28c, .slice ask_27p ask_27l ask_27c] (.tup [(.one .slice), (.one .slice), (.one (.int .u64)), (.one .bool)]) fun s38p s38l s38c s39p s39l s39c x40 b41 =>
  BIf (!b37) (
   k (.bool false)) (
   BIf (!b41) (
    k (.bool false)) (
    BIf (x36 != (IntKind.wrap .u64 ((own_26l : Nat) : Int))) (
     k (.bool false)) (
     BIf (x40 != x36) (
      k (.bool false)) (
      Loop [.slice, .slice, .slice, .slice, .slice, .slice, (.int .i64)] (F3_L3 k) own_26p own_26l own_26c ask_27p ask_27l ask_27c s34p s34l s34c s35p s35l s35c s38p s38l s38c s39p s39l s39c 0)))))
theorem F3_L2_rule {k : Value → W} (I : Int → Int → Option Addr → Nat → Nat → Option Addr → Nat → Nat → Option Addr → Nat → Nat → Int → W) (μ : Int → Int → Option Addr → Nat → Nat → Option Addr → Nat → Nat → Option Addr → Nat → Nat → Int → World → Nat)
  (hr : ∀ (one_24 : Int) (two_25 : Int) (own_26p : Option Addr) (own_26l : Nat) (own_26c : Nat) (ask_27p : Option Addr) (ask_27l : Nat) (ask_27c : Nat) (back_28p : Option Addr) (back_28l : Nat) (back_28c : Nat) (i_29 : Int) (w : World), I one_24 two_25 own_26p own_26l own_26c ask_27p ask_27l ask_27c back_28p back_28l back_28c i_29 w → F3_L2 k (fun one_24' two_25' own_26p' own_26l' own_26c' ask_27p' ask_27l' ask_27c' back_28p' back_28l' back_28c' i_29' w' => I one_24' two_25' own_26p' own_26l' own_26c' ask_27p' ask_27l' ask_27c' back_28p' back_28l' back_28c' i_29' w' ∧ μ one_24' two_25' own_26p' own_26l' own_26c' ask_27p' ask_27l' ask_27c' back_28p' back_28l' back_28c' i_29' w' < μ one_24 two_25 own_26p own_26l own_26c ask_27p ask_27l ask_27c back_28p back_28l back_28c i_29 w) one_24 two_25 own_26p own_26l own_26c ask_27p ask_27l ask_27c back_28p back_28l back_28c i_29 w)
  {w : World} {one_24 : Int} {two_25 : Int} {own_26p : Option Addr} {own_26l : Nat} {own_26c : Nat} {ask_27p : Option Addr} {ask_27l : Nat} {ask_27c : Nat} {back_28p : Option Addr} {back_28l : Nat} {back_28c : Nat} {i_29 : Int} (h : I one_24 two_25 own_26p own_26l own_26c ask_27p ask_27l ask_27c back_28p back_28l back_28c i_29 w) : Loop [(.int .u8), (.int .u8), .slice, .slice, .slice, (.int .i64)] (F3_L2 k) one_24 two_25 own_26p own_26l own_26c ask_27p ask_27l ask_27c back_28p back_28l back_28c i_29 w :=
  Loop_intro (ts := [(.int .u8), (.int .u8), .slice, .slice, .slice, (.int .i64)]) (s := (one_24, two_25, (own_26p, own_26l, own_26c), (ask_27p, ask_27l, ask_27c), (back_28p, back_28l, back_28c), i_29, ())) (fun s w => I s.1 s.2.1 s.2.2.1.1 s.2.2.1.2.1 s.2.2.1.2.2 s.2.2.2.1.1 s.2.2.2.1.2.1 s.2.2.2.1.2.2 s.2.2.2.2.1.1 s.2.2.2.2.1.2.1 s.2.2.2.2.1.2.2 s.2.2.2.2.2.1 w) (fun s w => μ s.1 s.2.1 s.2.2.1.1 s.2.2.1.2.1 s.2.2.1.2.2 s.2.2.2.1.1 s.2.2.2.1.2.1 s.2.2.2.1.2.2 s.2.2.2.2.1.1 s.2.2.2.2.1.2.1 s.2.2.2.2.1.2.2 s.2.2.2.2.2.1 w) h (fun s w h => hr s.1 s.2.1 s.2.2.1.1 s.2.2.1.2.1 s.2.2.1.2.2 s.2.2.2.1.1 s.2.2.2.1.2.1 s.2.2.2.1.2.2 s.2.2.2.2.1.1 s.2.2.2.2.1.2.1 s.2.2.2.2.1.2.2 s.2.2.2.2.2.1 w h)
def F3_J1 (k : Value → W) (one_19 : Int) (two_20 : Int) (own_21p : Option Addr) (own_21l : Nat) (own_21c : Nat) (ask_22p : Option Addr) (ask_22l : Nat) (ask_22c : Nat) : W :=
 Bind (subI .i64 ((own_21l : Nat) : Int) 1 : Int) fun i_23 =>
 Loop [(.int .u8), (.int .u8), .slice, .slice, .slice, (.int .i64)] (F3_L2 k) one_19 two_20 own_21p own_21l own_21c ask_22p ask_22l ask_22c none 0 0 i_23
def F3_L1 (k : Value → W) (again14 : Int → Int → Option Addr → Nat → Nat → Option Addr → Nat → Nat → Option Addr → Nat → Nat → Int → W) (one_8 : Int) (two_9 : Int) (others_10p : Option Addr) (others_10l : Nat) (others_10c : Nat) (own_11p : Option Addr) (own_11l : Nat) (own_11c : Nat) (ask_12p : Option Addr) (ask_12l : Nat) (ask_12c : Nat) (i_13 : Int) : W :=
 BIf (decide (i_13 < ((others_10l : Nat) : Int))) (
  BIf (decide (i_13 < 20)) (
   NN others_10p fun a15 =>
   Req (0 ≤ i_13 ∧ i_13 < ((others_10l : Nat) : Int)) <|
   LoadT (.int .i64) (a15.add i_13.toNat) fun x16 =>
   RawT Go.Proofs.Try.prog (Instr.buildSlice 23 1 [(0, .agg #[.int .i64 x16, .int .i64 0])].toArray) (.s (.one .slice)) fun s17p s17l s17c =>
   NextT Go.Proofs.Try.prog (builtin .append #[23, 23] 23 [false, false].toArray [.slice ask_12p ask_12l ask_12c, .slice s17p s17l s17c].toArray) (.s (.one .slice)) fun s18p s18l s18c =>
   again14 one_8 two_9 others_10p others_10l others_10c own_11p own_11l own_11c s18p s18l s18c (addI .i64 i_13 1)) (
   F3_J1 k one_8 two_9 own_11p own_11l own_11c ask_12p ask_12l ask_12c)) (
  F3_J1 k one_8 two_9 own_11p own_11l own_11c ask_12p ask_12l ask_12c)
theorem F3_L1_rule {k : Value → W} (I : Int → Int → Option Addr → Nat → Nat → Option Addr → Nat → Nat → Option Addr → Nat → Nat → Int → W) (μ : Int → Int → Option Addr → Nat → Nat → Option Addr → Nat → Nat → Option Addr → Nat → Nat → Int → World → Nat)
  (hr : ∀ (one_8 : Int) (two_9 : Int) (others_10p : Option Addr) (others_10l : Nat) (others_10c : Nat) (own_11p : Option Addr) (own_11l : Nat) (own_11c : Nat) (ask_12p : Option Addr) (ask_12l : Nat) (ask_12c : Nat) (i_13 : Int) (w : World), I one_8 two_9 others_10p others_10l others_10c own_11p own_11l own_11c ask_12p ask_12l ask_12c i_13 w → F3_L1 k (fun one_8' two_9' others_10p' others_10l' others_10c' own_11p' own_11l' own_11c' ask_12p' ask_12l' ask_12c' i_13' w' => I one_8' two_9' others_10p' others_10l' others_10c' own_11p' own_11l' own_11c' ask_12p' ask_12l' ask_12c' i_13' w' ∧ μ one_8' two_9' others_10p' others_10l' others_10c' own_11p' own_11l' own_11c' ask_12p' ask_12l' ask_12c' i_13' w' < μ one_8 two_9 others_10p others_10l others_10c own_11p own_11l own_11c ask_12p ask_12l ask_12c i_13 w) one_8 two_9 others_10p others_10l others_10c own_11p own_11l own_11c ask_12p ask_12l ask_12c i_13 w)
  {w : World} {one_8 : Int} {two_9 : Int} {others_10p : Option Addr} {others_10l : Nat} {others_10c : Nat} {own_11p : Option Addr} {own_11l : Nat} {own_11c : Nat} {ask_12p : Option Addr} {ask_12l : Nat} {ask_12c : Nat} {i_13 : Int} (h : I one_8 two_9 others_10p others_10l others_10c own_11p own_11l own_11c ask_12p ask_12l ask_12c i_13 w) : Loop [(.int .u8), (.int .u8), .slice, .slice, .slice, (.int .i64)] (F3_L1 k) one_8 two_9 others_10p others_10l others_10c own_11p own_11l own_11c ask_12p ask_12l ask_12c i_13 w :=
  Loop_intro (ts := [(.int .u8), (.int .u8), .slice, .slice, .slice, (.int .i64)]) (s := (one_8, two_9, (others_10p, others_10l, others_10c), (own_11p, own_11l, own_11c), (ask_12p, ask_12l, ask_12c), i_13, ())) (fun s w => I s.1 s.2.1 s.2.2.1.1 s.2.2.1.2.1 s.2.2.1.2.2 s.2.2.2.1.1 s.2.2.2.1.2.1 s.2.2.2.1.2.2 s.2.2.2.2.1.1 s.2.2.2.2.1.2.1 s.2.2.2.2.1.2.2 s.2.2.2.2.2.1 w) (fun s w => μ s.1 s.2.1 s.2.2.1.1 s.2.2.1.2.1 s.2.2.1.2.2 s.2.2.2.1.1 s.2.2.2.1.2.1 s.2.2.2.1.2.2 s.2.2.2.2.1.1 s.2.2.2.2.1.2.1 s.2.2.2.2.1.2.2 s.2.2.2.2.2.1 w) h (fun s w h => hr s.1 s.2.1 s.2.2.1.1 s.2.2.1.2.1 s.2.2.1.2.2 s.2.2.2.1.1 s.2.2.2.1.2.1 s.2.2.2.1.2.2 s.2.2.2.2.1.1 s.2.2.2.2.1.2.1 s.2.2.2.2.1.2.2 s.2.2.2.2.2.1 w h)
def F3 (k : Value → W) (one_1 : Int) (two_2 : Int) (keys_3p : Option Addr) (keys_3l : Nat) (keys_3c : Nat) (others_4p : Option Addr) (others_4l : Nat) (others_4c : Nat) : W :=
 BIf (decide (((keys_3l : Nat) : Int) > 2147483647)) (
  k (.bool true)) (
  BIf (decide (((others_4l : Nat) : Int) > 2147483647)) (
   k (.bool true)) (
   CallT Go.Proofs.Try.prog 4 [.slice keys_3p keys_3l keys_3c] (.s (.one .slice)) fun s5p s5l s5c =>
   BIf (((s5l : Nat) : Int) == 0) (
    k (.bool true)) (
    RawT Go.Proofs.Try.prog (Instr.buildSlice 23 0 [].toArray) (.s (.one .slice)) fun s6p s6l s6c =>
    NextT Go.Proofs.Try.prog (builtin .append #[23, 23] 23 [false, false].toArray [.slice s6p s6l s6c, .slice s5p s5l s5c].toArray) (.s (.one .slice)) fun s7p s7l s7c =>
    Loop [(.int .u8), (.int .u8), .slice, .slice, .slice, (.int .i64)] (F3_L1 k) one_1 two_2 others_4p others_4l others_4c s5p s5l s5c s7p s7l s7c 0)))
theorem F3_eq (k : Value → W) (one_1 : Int) (two_2 : Int) (keys_3p : Option Addr) (keys_3l : Nat) (keys_3c : Nat) (others_4p : Option Addr) (others_4l : Nat) (others_4c : Nat) : compF Go.Proofs.Try.prog Go.Proofs.Try.f3 [(8, [(0, (.int .u8)), (1, (.int .u8)), (3, .slice), (9, .slice), (10, .slice), (11, (.int .i64))]), (13, [(0, (.int .u8)), (1, (.int .u8)), (9, .slice), (10, .slice), (12, .slice), (13, (.int .i64))]), (21, [(9, .slice), (10, .slice), (14, .slice), (15, .slice), (18, .slice), (19, .slice), (22, (.int .i64))])] (Go.Proofs.Try.f3.body.getD .skip) [.int .u8 one_1, .int .u8 two_2, .slice keys_3p keys_3l keys_3c, .slice others_4p others_4l others_4c] k = F3 k one_1 two_2 keys_3p keys_3l keys_3c others_4p others_4l others_4c := by kernel_rfl
theorem F3_calls {one_1 : Int} {two_2 : Int} {keys_3p : Option Addr} {keys_3l : Nat} {keys_3c : Nat} {others_4p : Option Addr} {others_4l : Nat} {others_4c : Nat} {w : World} {R : Ending → World → Prop} (h : F3 (fun v w => R (.returned v) w) one_1 two_2 keys_3p keys_3l keys_3c others_4p others_4l others_4c w) : Calls Go.Proofs.Try.prog 3 #[.int .u8 one_1, .int .u8 two_2, .slice keys_3p keys_3l keys_3c, .slice others_4p others_4l others_4c] w R :=
  calls_of_compF noNum follows [(8, [(0, (.int .u8)), (1, (.int .u8)), (3, .slice), (9, .slice), (10, .slice), (11, (.int .i64))]), (13, [(0, (.int .u8)), (1, (.int .u8)), (9, .slice), (10, .slice), (12, .slice), (13, (.int .i64))]), (21, [(9, .slice), (10, .slice), (14, .slice), (15, .slice), (18, .slice), (19, .slice), (22, (.int .i64))])] (f := 3) (fn := Go.Proofs.Try.f3) (body := Go.Proofs.Try.f3.body.getD .skip) (args := [.int .u8 one_1, .int .u8 two_2, .slice keys_3p keys_3l keys_3c, .slice others_4p others_4l others_4c]) rfl rfl (Nat.le_of_ble_eq_true rfl) ((congrFun (F3_eq _ one_1 two_2 keys_3p keys_3l keys_3c others_4p others_4l others_4c) w).mpr h)
theorem F3_call {one_1 : Int} {two_2 : Int} {keys_3p : Option Addr} {keys_3l : Nat} {keys_3c : Nat} {others_4p : Option Addr} {others_4l : Nat} {others_4c : Nat} {w : World} {g : Fn W (RTy.leaves (.s (.one .bool)))} (h : F3 (fun v => Back (.s (.one .bool)) g (.returned v)) one_1 two_2 keys_3p keys_3l keys_3c others_4p others_4l others_4c w) : CallT Go.Proofs.Try.prog 3 [.int .u8 one_1, .int .u8 two_2, .slice keys_3p keys_3l keys_3c, .slice others_4p others_4l others_4c] (.s (.one .bool)) g w := F3_calls h

end Go.Proofs.Ytofnapddoiodkaa.E
