/-
  Printed by this session's own program eng.py out of Lean's print of the loaded functions: what each function's body asks, in the engine's words; each is checked against the program by the kernel.
-/
import Derived.Test.YtfokodpnoiilbaaEng
import Derived.Test.YtfokodpnoiilbaaFnsA
namespace Go.Proofs.Ytfokodpnoiilbaa.E
open Go
set_option linter.unusedVariables false
set_option maxRecDepth 100000
/-! ## impl.answerSpots -/
def F83_L1 (k : Value → W) (again9 : Addr → Addr → Option Addr → Nat → Nat → Int → Int → W) (a4 : Addr) (out_5 : Addr) (s6p : Option Addr) (s6l : Nat) (s6c : Nat) (x7 : Int) (x8 : Int) : W :=
 BIf (decide (x8 < x7)) (
  NN s6p fun a10 =>
  Req (0 ≤ x8 ∧ x8 < ((s6l : Nat) : Int)) <|
  LoadT .any (a10.add x8.toNat) fun v11 =>
  RawS Go.Proofs.Try.prog (Instr.typeAssert v11 153 200 true) (.tup [(.agg [.slice, (.int .i64)]), (.one .bool)]) fun s12p s12l s12c x13 b14 =>
  New [.slice none 0 0, .int .i64 0] 200 fun n15 =>
  Store1 ⟨n15, 0, none⟩ (.slice s12p s12l s12c) <|
  Store1 ⟨n15, 1, none⟩ (.int .i64 x13) <|
  Drw <|
  LoadT .slice out_5 fun s16p s16l s16c =>
  LoadT .slice ⟨n15, 0, none⟩ fun s17p s17l s17c =>
  LoadT (.int .i64) ⟨n15, 1, none⟩ fun x18 =>
  LoadT .slice (out_5.add 1) fun s19p s19l s19c =>
  Both (
   RawT Go.Proofs.Try.prog (Instr.buildSlice 46 1 [(0, .agg #[.slice s17p s17l s17c, .int .i64 x18])].toArray) (.s (.one .slice)) fun s20p s20l s20c =>
   Chk1 (out_5.add 1) (.slice s19p s19l s19c) <|
   Chk1 out_5 (.slice s16p s16l s16c) <|
   Both (
    NextT Go.Proofs.Try.prog (builtin .append #[46, 46] 46 [false, false].toArray [.slice s16p s16l s16c, .slice s20p s20l s20c].toArray) (.s (.one .slice)) fun s21p s21l s21c =>
    Chk1 (out_5.add 1) (.slice s19p s19l s19c) <|
    Chk1 ⟨n15, 0, none⟩ (.slice s17p s17l s17c) <|
    Chk1 ⟨n15, 1, none⟩ (.int .i64 x18) <|
    RawT Go.Proofs.Try.prog (Instr.buildSlice 32 1 [(0, .bool b14)].toArray) (.s (.one .slice)) fun s22p s22l s22c =>
    Chk1 (out_5.add 1) (.slice s19p s19l s19c) <|
    Chk1 ⟨n15, 0, none⟩ (.slice s17p s17l s17c) <|
    Chk1 ⟨n15, 1, none⟩ (.int .i64 x18) <|
    Chk1 out_5 (.slice s16p s16l s16c) <|
    NextT Go.Proofs.Try.prog (builtin .append #[32, 32] 32 [false, false].toArray [.slice s19p s19l s19c, .slice s22p s22l s22c].toArray) (.s (.one .slice)) fun s23p s23l s23c =>
    Chk1 ⟨n15, 0, none⟩ (.slice s17p s17l s17c) <|
    Chk1 ⟨n15, 1, none⟩ (.int .i64 x18) <|
    Chk1 out_5 (.slice s16p s16l s16c) <|
    Store1 out_5 (.slice s21p s21l s21c) <|
    Store1 (out_5.add 1) (.slice s23p s23l s23c) <|
    again9 a4 out_5 s6p s6l s6c x7 (addI .i64 x8 1)) (
    RawT Go.Proofs.Try.prog (Instr.buildSlice 32 1 [(0, .bool b14)].toArray) (.s (.one .slice)) fun s24p s24l s24c =>
    Chk1 (out_5.add 1) (.slice s19p s19l s19c) <|
    Chk1 ⟨n15, 0, none⟩ (.slice s17p s17l s17c) <|
    Chk1 ⟨n15, 1, none⟩ (.int .i64 x18) <|
    Chk1 out_5 (.slice s16p s16l s16c) <|
    NextT Go.Proofs.Try.prog (builtin .append #[46, 46] 46 [false, false].toArray [.slice s16p s16l s16c, .slice s20p s20l s20c].toArray) (.s (.one .slice)) fun s25p s25l s25c =>
    Chk1 (out_5.add 1) (.slice s19p s19l s19c) <|
    Chk1 ⟨n15, 0, none⟩ (.slice s17p s17l s17c) <|
    Chk1 ⟨n15, 1, none⟩ (.int .i64 x18) <|
    NextT Go.Proofs.Try.prog (builtin .append #[32, 32] 32 [false, false].toArray [.slice s19p s19l s19c, .slice s24p s24l s24c].toArray) (.s (.one .slice)) fun s26p s26l s26c =>
    Chk1 ⟨n15, 0, none⟩ (.slice s17p s17l s17c) <|
    Chk1 ⟨n15, 1, none⟩ (.int .i64 x18) <|
    Chk1 out_5 (.slice s16p s16l s16c) <|
    Store1 out_5 (.slice s25p s25l s25c) <|
    Store1 (out_5.add 1) (.slice s26p s26l s26c) <|
    again9 a4 out_5 s6p s6l s6c x7 (addI .i64 x8 1))) (
   RawT Go.Proofs.Try.prog (Instr.buildSlice 32 1 [(0, .bool b14)].toArray) (.s (.one .slice)) fun s27p s27l s27c =>
   Chk1 (out_5.add 1) (.slice s19p s19l s19c) <|
   Chk1 ⟨n15, 0, none⟩ (.slice s17p s17l s17c) <|
   Chk1 ⟨n15, 1, none⟩ (.int .i64 x18) <|
   Chk1 out_5 (.slice s16p s16l s16c) <|
   RawT Go.Proofs.Try.prog (Instr.buildSlice 46 1 [(0, .agg #[.slice s17p s17l s17c, .int .i64 x18])].toArray) (.s (.one .slice)) fun s28p s28l s28c =>
   Chk1 (out_5.add 1) (.slice s19p s19l s19c) <|
   Chk1 out_5 (.slice s16p s16l s16c) <|
   NextT Go.Proofs.Try.prog (builtin .append #[46, 46] 46 [false, false].toArray [.slice s16p s16l s16c, .slice s28p s28l s28c].toArray) (.s (.one .slice)) fun s29p s29l s29c =>
   Chk1 (out_5.add 1) (.slice s19p s19l s19c) <|
   Chk1 ⟨n15, 0, none⟩ (.slice s17p s17l s17c) <|
   Chk1 ⟨n15, 1, none⟩ (.int .i64 x18) <|
   NextT Go.Proofs.Try.prog (builtin .append #[32, 32] 32 [false, false].toArray [.slice s19p s19l s19c, .slice s27p s27l s27c].toArray) (.s (.one .slice)) fun s30p s30l s30c =>
   Chk1 ⟨n15, 0, none⟩ (.slice s17p s17l s17c) <|
   Chk1 ⟨n15, 1, none⟩ (.int .i64 x18) <|
   Chk1 out_5 (.slice s16p s16l s16c) <|
   Store1 out_5 (.slice s29p s29l s29c) <|
   Store1 (out_5.add 1) (.slice s30p s30l s30c) <|
   again9 a4 out_5 s6p s6l s6c x7 (addI .i64 x8 1))) (
  LoadT .slice (out_5.add 0) fun s31p s31l s31c =>
  LoadT .slice (out_5.add 1) fun s32p s32l s32c =>
  LoadT .slice (out_5.add 2) fun s33p s33l s33c =>
  LoadT (.int .u64) (out_5.add 3) fun x34 =>
  Store1 (a4.add 0) (.slice s31p s31l s31c) <|
  Store1 (a4.add 1) (.slice s32p s32l s32c) <|
  Store1 (a4.add 2) (.slice s33p s33l s33c) <|
  Store1 (a4.add 3) (.int .u64 x34) <|
  LoadT .slice (a4.add 0) fun s35p s35l s35c =>
  LoadT .slice (a4.add 1) fun s36p s36l s36c =>
  LoadT .slice (a4.add 2) fun s37p s37l s37c =>
  LoadT (.int .u64) (a4.add 3) fun x38 =>
  k (.agg #[.slice s35p s35l s35c, .slice s36p s36l s36c, .slice s37p s37l s37c, .int .u64 x38]))
theorem F83_L1_rule {k : Value → W} (I : Addr → Addr → Option Addr → Nat → Nat → Int → Int → W) (μ : Addr → Addr → Option Addr → Nat → Nat → Int → Int → World → Nat)
  (hr : ∀ (a4 : Addr) (out_5 : Addr) (s6p : Option Addr) (s6l : Nat) (s6c : Nat) (x7 : Int) (x8 : Int) (w : World), I a4 out_5 s6p s6l s6c x7 x8 w → F83_L1 k (fun a4' out_5' s6p' s6l' s6c' x7' x8' w' => I a4' out_5' s6p' s6l' s6c' x7' x8' w' ∧ μ a4' out_5' s6p' s6l' s6c' x7' x8' w' < μ a4 out_5 s6p s6l s6c x7 x8 w) a4 out_5 s6p s6l s6c x7 x8 w)
  {w : World} {a4 : Addr} {out_5 : Addr} {s6p : Option Addr} {s6l : Nat} {s6c : Nat} {x7 : Int} {x8 : Int} (h : I a4 out_5 s6p s6l s6c x7 x8 w) : Loop [.addr, .addr, .slice, (.int .i64), (.int .i64)] (F83_L1 k) a4 out_5 s6p s6l s6c x7 x8 w :=
  Loop_intro (ts := [.addr, .addr, .slice, (.int .i64), (.int .i64)]) (s := (a4, out_5, (s6p, s6l, s6c), x7, x8, ())) (fun s w => I s.1 s.2.1 s.2.2.1.1 s.2.2.1.2.1 s.2.2.1.2.2 s.2.2.2.1 s.2.2.2.2.1 w) (fun s w => μ s.1 s.2.1 s.2.2.1.1 s.2.2.1.2.1 s.2.2.1.2.2 s.2.2.2.1 s.2.2.2.2.1 w) h (fun s w h => hr s.1 s.2.1 s.2.2.1.1 s.2.2.1.2.1 s.2.2.1.2.2 s.2.2.2.1 s.2.2.2.2.1 w h)
def F83 (k : Value → W) (l_1p : Option Addr) (l_1l : Nat) (l_1c : Nat) : W :=
 New [.slice none 0 0, .slice none 0 0, .slice none 0 0, .int .u64 0] 59 fun n2 =>
 New [.slice none 0 0, .slice none 0 0, .slice none 0 0, .int .u64 0] 59 fun n3 =>
 Loop [.addr, .addr, .slice, (.int .i64), (.int .i64)] (F83_L1 k) ⟨n2, 0, none⟩ ⟨n3, 0, none⟩ l_1p l_1l l_1c ((l_1l : Nat) : Int) 0
theorem F83_eq (k : Value → W) (l_1p : Option Addr) (l_1l : Nat) (l_1c : Nat) : compF Go.Proofs.Try.prog Go.Proofs.Try.f83 [(3, [(2, .addr), (3, .addr), (8, .slice), (9, (.int .i64)), (10, (.int .i64))])] (Go.Proofs.Try.f83.body.getD .skip) [.slice l_1p l_1l l_1c] k = F83 k l_1p l_1l l_1c := by kernel_rfl
theorem F83_calls {l_1p : Option Addr} {l_1l : Nat} {l_1c : Nat} {w : World} {R : Ending → World → Prop} (h : F83 (fun v w => R (.returned v) w) l_1p l_1l l_1c w) : Calls Go.Proofs.Try.prog 83 #[.slice l_1p l_1l l_1c] w R :=
  calls_of_compF noNum follows [(3, [(2, .addr), (3, .addr), (8, .slice), (9, (.int .i64)), (10, (.int .i64))])] (f := 83) (fn := Go.Proofs.Try.f83) (body := Go.Proofs.Try.f83.body.getD .skip) (args := [.slice l_1p l_1l l_1c]) rfl rfl (Nat.le_of_ble_eq_true rfl) ((congrFun (F83_eq _ l_1p l_1l l_1c) w).mpr h)
theorem F83_call {l_1p : Option Addr} {l_1l : Nat} {l_1c : Nat} {w : World} {g : Fn W (RTy.leaves (.s (.agg [.slice, .slice, .slice, (.int .u64)])))} (h : F83 (fun v => Back (.s (.agg [.slice, .slice, .slice, (.int .u64)])) g (.returned v)) l_1p l_1l l_1c w) : CallT Go.Proofs.Try.prog 83 [.slice l_1p l_1l l_1c] (.s (.agg [.slice, .slice, .slice, (.int .u64)])) g w := F83_calls h

/-! ## impl.spots -/
def F84_L1 (k : Value → W) (again6 : Option Addr → Nat → Nat → Option Addr → Nat → Nat → Int → Int → W) (out_2p : Option Addr) (out_2l : Nat) (out_2c : Nat) (s3p : Option Addr) (s3l : Nat) (s3c : Nat) (x4 : Int) (x5 : Int) : W :=
 BIf (decide (x5 < x4)) (
  NN s3p fun a7 =>
  Req (0 ≤ x5 ∧ x5 < ((s3l : Nat) : Int)) <|
  LoadT .slice ((a7.add (x5.toNat * 2)).add 0) fun s8p s8l s8c =>
  LoadT (.int .i64) ((a7.add (x5.toNat * 2)).add 1) fun x9 =>
  New [.slice none 0 0, .int .i64 0] 87 fun n10 =>
  Store1 ⟨n10, 0, none⟩ (.slice s8p s8l s8c) <|
  Store1 ⟨n10, 1, none⟩ (.int .i64 x9) <|
  LoadT .slice ⟨n10, 0, none⟩ fun s11p s11l s11c =>
  LoadT (.int .i64) ⟨n10, 1, none⟩ fun x12 =>
  RawT Go.Proofs.Try.prog (Instr.buildSlice 143 1 [(0, .iface 200 (.agg #[.slice s11p s11l s11c, .int .i64 x12]))].toArray) (.s (.one .slice)) fun s13p s13l s13c =>
  NextT Go.Proofs.Try.prog (builtin .append #[143, 143] 143 [false, false].toArray [.slice out_2p out_2l out_2c, .slice s13p s13l s13c].toArray) (.s (.one .slice)) fun s14p s14l s14c =>
  again6 s14p s14l s14c s3p s3l s3c x4 (addI .i64 x5 1)) (
  k (.slice out_2p out_2l out_2c))
theorem F84_L1_rule {k : Value → W} (I : Option Addr → Nat → Nat → Option Addr → Nat → Nat → Int → Int → W) (μ : Option Addr → Nat → Nat → Option Addr → Nat → Nat → Int → Int → World → Nat)
  (hr : ∀ (out_2p : Option Addr) (out_2l : Nat) (out_2c : Nat) (s3p : Option Addr) (s3l : Nat) (s3c : Nat) (x4 : Int) (x5 : Int) (w : World), I out_2p out_2l out_2c s3p s3l s3c x4 x5 w → F84_L1 k (fun out_2p' out_2l' out_2c' s3p' s3l' s3c' x4' x5' w' => I out_2p' out_2l' out_2c' s3p' s3l' s3c' x4' x5' w' ∧ μ out_2p' out_2l' out_2c' s3p' s3l' s3c' x4' x5' w' < μ out_2p out_2l out_2c s3p s3l s3c x4 x5 w) out_2p out_2l out_2c s3p s3l s3c x4 x5 w)
  {w : World} {out_2p : Option Addr} {out_2l : Nat} {out_2c : Nat} {s3p : Option Addr} {s3l : Nat} {s3c : Nat} {x4 : Int} {x5 : Int} (h : I out_2p out_2l out_2c s3p s3l s3c x4 x5 w) : Loop [.slice, .slice, (.int .i64), (.int .i64)] (F84_L1 k) out_2p out_2l out_2c s3p s3l s3c x4 x5 w :=
  Loop_intro (ts := [.slice, .slice, (.int .i64), (.int .i64)]) (s := ((out_2p, out_2l, out_2c), (s3p, s3l, s3c), x4, x5, ())) (fun s w => I s.1.1 s.1.2.1 s.1.2.2 s.2.1.1 s.2.1.2.1 s.2.1.2.2 s.2.2.1 s.2.2.2.1 w) (fun s w => μ s.1.1 s.1.2.1 s.1.2.2 s.2.1.1 s.2.1.2.1 s.2.1.2.2 s.2.2.1 s.2.2.2.1 w) h (fun s w h => hr s.1.1 s.1.2.1 s.1.2.2 s.2.1.1 s.2.1.2.1 s.2.1.2.2 s.2.2.1 s.2.2.2.1 w h)
def F84 (k : Value → W) (l_1p : Option Addr) (l_1l : Nat) (l_1c : Nat) : W :=
 Loop [.slice, .slice, (.int .i64), (.int .i64)] (F84_L1 k) none 0 0 l_1p l_1l l_1c ((l_1l : Nat) : Int) 0
theorem F84_eq (k : Value → W) (l_1p : Option Addr) (l_1l : Nat) (l_1c : Nat) : compF Go.Proofs.Try.prog Go.Proofs.Try.f84 [(3, [(3, .slice), (6, .slice), (7, (.int .i64)), (8, (.int .i64))])] (Go.Proofs.Try.f84.body.getD .skip) [.slice l_1p l_1l l_1c] k = F84 k l_1p l_1l l_1c := by kernel_rfl
theorem F84_calls {l_1p : Option Addr} {l_1l : Nat} {l_1c : Nat} {w : World} {R : Ending → World → Prop} (h : F84 (fun v w => R (.returned v) w) l_1p l_1l l_1c w) : Calls Go.Proofs.Try.prog 84 #[.slice l_1p l_1l l_1c] w R :=
  calls_of_compF noNum follows [(3, [(3, .slice), (6, .slice), (7, (.int .i64)), (8, (.int .i64))])] (f := 84) (fn := Go.Proofs.Try.f84) (body := Go.Proofs.Try.f84.body.getD .skip) (args := [.slice l_1p l_1l l_1c]) rfl rfl (Nat.le_of_ble_eq_true rfl) ((congrFun (F84_eq _ l_1p l_1l l_1c) w).mpr h)
theorem F84_call {l_1p : Option Addr} {l_1l : Nat} {l_1c : Nat} {w : World} {g : Fn W (RTy.leaves (.s (.one .slice)))} (h : F84 (fun v => Back (.s (.one .slice)) g (.returned v)) l_1p l_1l l_1c w) : CallT Go.Proofs.Try.prog 84 [.slice l_1p l_1l l_1c] (.s (.one .slice)) g w := F84_calls h

/-! ## impl.spotStep -/
def F57 (k : Value → W) (t_1 : Value) (x2 : Int) (x3 : Int) (s4p : Option Addr) (s4l : Nat) (s4c : Nat) (s5p : Option Addr) (s5l : Nat) (s5c : Nat) (s6p : Option Addr) (s6l : Nat) (s6c : Nat) (x7 : Int) (x8 : Int) (x9 : Int) (x10 : Int) : W :=
 New [.int .i64 x2, .int .i64 x3, .slice s4p s4l s4c, .slice s5p s5l s5c, .slice s6p s6l s6c, .int .u64 x7, .int .i64 x8, .int .i64 x9, .int .i64 x10] 49 fun n11 =>
 New [.slice none 0 0, .slice none 0 0, .slice none 0 0, .int .u64 0] 59 fun n12 =>
 LoadT .slice ⟨n11, 3, none⟩ fun s13p s13l s13c =>
 LoadT .slice ⟨n11, 4, none⟩ fun s14p s14l s14c =>
 New [.slice none 0 0, .slice none 0 0, .int .u64 0] 183 fun n15 =>
 Store1 ⟨n15, 0, none⟩ (.slice s13p s13l s13c) <|
 Store1 ⟨n15, 1, none⟩ (.slice s14p s14l s14c) <|
 Store1 ⟨n15, 2, none⟩ (.int .u64 0) <|
 LoadT (.int .i64) ⟨n11, 0, none⟩ fun x16 =>
 BIf (x16 == 1) (
  Drw <|
  LoadT .slice ⟨n11, 2, none⟩ fun s17p s17l s17c =>
  MethOk Go.Proofs.Try.prog (.func (.method "Add") #[t_1] #[]) <|
  CallT Go.Proofs.Try.prog 84 [.slice s17p s17l s17c] (.s (.one .slice)) fun s18p s18l s18c =>
  NextT Go.Proofs.Try.prog (callMethod t_1 "Add" [.slice s18p s18l s18c].toArray) (.s (.one .slice)) fun s19p s19l s19c =>
  Chk1 ⟨n11, 2, none⟩ (.slice s17p s17l s17c) <|
  CallT Go.Proofs.Try.prog 83 [.slice s19p s19l s19c] (.s (.agg [.slice, .slice, .slice, (.int .u64)])) fun s20p s20l s20c s21p s21l s21c s22p s22l s22c x23 =>
  Chk1 ⟨n11, 2, none⟩ (.slice s17p s17l s17c) <|
  Store1 ⟨n12, 0, none⟩ (.slice s20p s20l s20c) <|
  Store1 ⟨n12, 1, none⟩ (.slice s21p s21l s21c) <|
  Store1 ⟨n12, 2, none⟩ (.slice s22p s22l s22c) <|
  Store1 ⟨n12, 3, none⟩ (.int .u64 x23) <|
  LoadT .slice ⟨n12, 0, none⟩ fun s24p s24l s24c =>
  LoadT .slice ⟨n12, 1, none⟩ fun s25p s25l s25c =>
  LoadT .slice ⟨n12, 2, none⟩ fun s26p s26l s26c =>
  LoadT (.int .u64) ⟨n12, 3, none⟩ fun x27 =>
  k (.agg #[.slice s24p s24l s24c, .slice s25p s25l s25c, .slice s26p s26l s26c, .int .u64 x27])) (
  BIf (x16 == 2) (
   Drw <|
   LoadT .slice ⟨n11, 2, none⟩ fun s28p s28l s28c =>
   MethOk Go.Proofs.Try.prog (.func (.method "Delete") #[t_1] #[]) <|
   CallT Go.Proofs.Try.prog 84 [.slice s28p s28l s28c] (.s (.one .slice)) fun s29p s29l s29c =>
   NextT Go.Proofs.Try.prog (callMethod t_1 "Delete" [.slice s29p s29l s29c].toArray) (.s (.one .slice)) fun s30p s30l s30c =>
   Chk1 ⟨n11, 2, none⟩ (.slice s28p s28l s28c) <|
   CallT Go.Proofs.Try.prog 83 [.slice s30p s30l s30c] (.s (.agg [.slice, .slice, .slice, (.int .u64)])) fun s31p s31l s31c s32p s32l s32c s33p s33l s33c x34 =>
   Chk1 ⟨n11, 2, none⟩ (.slice s28p s28l s28c) <|
   Store1 ⟨n12, 0, none⟩ (.slice s31p s31l s31c) <|
   Store1 ⟨n12, 1, none⟩ (.slice s32p s32l s32c) <|
   Store1 ⟨n12, 2, none⟩ (.slice s33p s33l s33c) <|
   Store1 ⟨n12, 3, none⟩ (.int .u64 x34) <|
   LoadT .slice ⟨n12, 0, none⟩ fun s35p s35l s35c =>
   LoadT .slice ⟨n12, 1, none⟩ fun s36p s36l s36c =>
   LoadT .slice ⟨n12, 2, none⟩ fun s37p s37l s37c =>
   LoadT (.int .u64) ⟨n12, 3, none⟩ fun x38 =>
   k (.agg #[.slice s35p s35l s35c, .slice s36p s36l s36c, .slice s37p s37l s37c, .int .u64 x38])) (
   BIf (x16 == 3) (
    Drw <|
    LoadT .slice ⟨n11, 2, none⟩ fun s39p s39l s39c =>
    MethOk Go.Proofs.Try.prog (.func (.method "Get") #[t_1] #[]) <|
    CallT Go.Proofs.Try.prog 84 [.slice s39p s39l s39c] (.s (.one .slice)) fun s40p s40l s40c =>
    NextT Go.Proofs.Try.prog (callMethod t_1 "Get" [.slice s40p s40l s40c].toArray) (.s (.one .slice)) fun s41p s41l s41c =>
    Chk1 ⟨n11, 2, none⟩ (.slice s39p s39l s39c) <|
    CallT Go.Proofs.Try.prog 83 [.slice s41p s41l s41c] (.s (.agg [.slice, .slice, .slice, (.int .u64)])) fun s42p s42l s42c s43p s43l s43c s44p s44l s44c x45 =>
    Chk1 ⟨n11, 2, none⟩ (.slice s39p s39l s39c) <|
    Store1 ⟨n12, 0, none⟩ (.slice s42p s42l s42c) <|
    Store1 ⟨n12, 1, none⟩ (.slice s43p s43l s43c) <|
    Store1 ⟨n12, 2, none⟩ (.slice s44p s44l s44c) <|
    Store1 ⟨n12, 3, none⟩ (.int .u64 x45) <|
    LoadT .slice ⟨n12, 0, none⟩ fun s46p s46l s46c =>
    LoadT .slice ⟨n12, 1, none⟩ fun s47p s47l s47c =>
    LoadT .slice ⟨n12, 2, none⟩ fun s48p s48l s48c =>
    LoadT (.int .u64) ⟨n12, 3, none⟩ fun x49 =>
    k (.agg #[.slice s46p s46l s46c, .slice s47p s47l s47c, .slice s48p s48l s48c, .int .u64 x49])) (
    BIf (x16 == 4) (
     LoadT .slice ⟨n15, 0, none⟩ fun s50p s50l s50c =>
     LoadT .slice ⟨n15, 1, none⟩ fun s51p s51l s51c =>
     LoadT (.int .u64) ⟨n15, 2, none⟩ fun x52 =>
     NextT Go.Proofs.Try.prog (callMethod t_1 "Query" [.iface 183 (.agg #[.slice s50p s50l s50c, .slice s51p s51l s51c, .int .u64 x52])].toArray) (.s (.one .slice)) fun s53p s53l s53c =>
     CallT Go.Proofs.Try.prog 83 [.slice s53p s53l s53c] (.s (.agg [.slice, .slice, .slice, (.int .u64)])) fun s54p s54l s54c s55p s55l s55c s56p s56l s56c x57 =>
     Store1 ⟨n12, 0, none⟩ (.slice s54p s54l s54c) <|
     Store1 ⟨n12, 1, none⟩ (.slice s55p s55l s55c) <|
     Store1 ⟨n12, 2, none⟩ (.slice s56p s56l s56c) <|
     Store1 ⟨n12, 3, none⟩ (.int .u64 x57) <|
     LoadT .slice ⟨n12, 0, none⟩ fun s58p s58l s58c =>
     LoadT .slice ⟨n12, 1, none⟩ fun s59p s59l s59c =>
     LoadT .slice ⟨n12, 2, none⟩ fun s60p s60l s60c =>
     LoadT (.int .u64) ⟨n12, 3, none⟩ fun x61 =>
     k (.agg #[.slice s58p s58l s58c, .slice s59p s59l s59c, .slice s60p s60l s60c, .int .u64 x61])) (
     BIf (x16 == 5) (
      New [.slice none 0 0] 144 fun n62 =>
      LoadT .slice ⟨n15, 0, none⟩ fun s63p s63l s63c =>
      LoadT .slice ⟨n15, 1, none⟩ fun s64p s64l s64c =>
      LoadT (.int .u64) ⟨n15, 2, none⟩ fun x65 =>
      NextT Go.Proofs.Try.prog (callMethod t_1 "Apply" [.iface 183 (.agg #[.slice s63p s63l s63c, .slice s64p s64l s64c, .int .u64 x65]), .func (.func 85) #[] #[.pointer (some ⟨n62, 0, none⟩), .pointer (some ⟨n11, 0, none⟩)]].toArray) (.tup []) <|
      LoadT .slice ⟨n62, 0, none⟩ fun s66p s66l s66c =>
      CallT Go.Proofs.Try.prog 83 [.slice s66p s66l s66c] (.s (.agg [.slice, .slice, .slice, (.int .u64)])) fun s67p s67l s67c s68p s68l s68c s69p s69l s69c x70 =>
      Store1 ⟨n12, 0, none⟩ (.slice s67p s67l s67c) <|
      Store1 ⟨n12, 1, none⟩ (.slice s68p s68l s68c) <|
      Store1 ⟨n12, 2, none⟩ (.slice s69p s69l s69c) <|
      Store1 ⟨n12, 3, none⟩ (.int .u64 x70) <|
      LoadT .slice ⟨n12, 0, none⟩ fun s71p s71l s71c =>
      LoadT .slice ⟨n12, 1, none⟩ fun s72p s72l s72c =>
      LoadT .slice ⟨n12, 2, none⟩ fun s73p s73l s73c =>
      LoadT (.int .u64) ⟨n12, 3, none⟩ fun x74 =>
      k (.agg #[.slice s71p s71l s71c, .slice s72p s72l s72c, .slice s73p s73l s73c, .int .u64 x74])) (
      BIf (x16 == 6) (
       NextT Go.Proofs.Try.prog (callMethod t_1 "Len" [].toArray) (.s (.one (.int .u64))) fun x75 =>
       Store1 ⟨n12, 0, none⟩ (.slice none 0 0) <|
       Store1 ⟨n12, 1, none⟩ (.slice none 0 0) <|
       Store1 ⟨n12, 2, none⟩ (.slice none 0 0) <|
       Store1 ⟨n12, 3, none⟩ (.int .u64 x75) <|
       LoadT .slice ⟨n12, 0, none⟩ fun s76p s76l s76c =>
       LoadT .slice ⟨n12, 1, none⟩ fun s77p s77l s77c =>
       LoadT .slice ⟨n12, 2, none⟩ fun s78p s78l s78c =>
       LoadT (.int .u64) ⟨n12, 3, none⟩ fun x79 =>
       k (.agg #[.slice s76p s76l s76c, .slice s77p s77l s77c, .slice s78p s78l s78c, .int .u64 x79])) (
       BIf (x16 == 7) (
        LoadT (.int .u64) ⟨n11, 5, none⟩ fun x80 =>
        LoadT (.int .i64) ⟨n11, 6, none⟩ fun x81 =>
        LoadT (.int .i64) ⟨n11, 7, none⟩ fun x82 =>
        NextT Go.Proofs.Try.prog (callMethod t_1 "InsertAtDimension" [.int .u64 (subI .u64 x80 1), .int .i64 x81, .int .i64 x82].toArray) (.tup [(.one .slice), (.one .slice)]) fun s83p s83l s83c s84p s84l s84c =>
        CallT Go.Proofs.Try.prog 83 [.slice s83p s83l s83c] (.s (.agg [.slice, .slice, .slice, (.int .u64)])) fun s85p s85l s85c s86p s86l s86c s87p s87l s87c x88 =>
        New [.slice none 0 0, .slice none 0 0, .slice none 0 0, .int .u64 0] 59 fun n89 =>
        Store1 ⟨n89, 0, none⟩ (.slice s85p s85l s85c) <|
        Store1 ⟨n89, 1, none⟩ (.slice s86p s86l s86c) <|
        Store1 ⟨n89, 2, none⟩ (.slice s87p s87l s87c) <|
        Store1 ⟨n89, 3, none⟩ (.int .u64 x88) <|
        CallT Go.Proofs.Try.prog 83 [.slice s84p s84l s84c] (.s (.agg [.slice, .slice, .slice, (.int .u64)])) fun s90p s90l s90c s91p s91l s91c s92p s92l s92c x93 =>
        Store1 ⟨n89, 2, none⟩ (.slice s90p s90l s90c) <|
        LoadT .slice ⟨n89, 0, none⟩ fun s94p s94l s94c =>
        LoadT .slice ⟨n89, 1, none⟩ fun s95p s95l s95c =>
        LoadT .slice ⟨n89, 2, none⟩ fun s96p s96l s96c =>
        LoadT (.int .u64) ⟨n89, 3, none⟩ fun x97 =>
        Store1 ⟨n12, 0, none⟩ (.slice s94p s94l s94c) <|
        Store1 ⟨n12, 1, none⟩ (.slice s95p s95l s95c) <|
        Store1 ⟨n12, 2, none⟩ (.slice s96p s96l s96c) <|
        Store1 ⟨n12, 3, none⟩ (.int .u64 x97) <|
        LoadT .slice ⟨n12, 0, none⟩ fun s98p s98l s98c =>
        LoadT .slice ⟨n12, 1, none⟩ fun s99p s99l s99c =>
        LoadT .slice ⟨n12, 2, none⟩ fun s100p s100l s100c =>
        LoadT (.int .u64) ⟨n12, 3, none⟩ fun x101 =>
        k (.agg #[.slice s98p s98l s98c, .slice s99p s99l s99c, .slice s100p s100l s100c, .int .u64 x101])) (
        Store1 ⟨n12, 0, none⟩ (.slice none 0 0) <|
        Store1 ⟨n12, 1, none⟩ (.slice none 0 0) <|
        Store1 ⟨n12, 2, none⟩ (.slice none 0 0) <|
        Store1 ⟨n12, 3, none⟩ (.int .u64 0) <|
        LoadT .slice ⟨n12, 0, none⟩ fun s102p s102l s102c =>
        LoadT .slice ⟨n12, 1, none⟩ fun s103p s103l s103c =>
        LoadT .slice ⟨n12, 2, none⟩ fun s104p s104l s104c =>
        LoadT (.int .u64) ⟨n12, 3, none⟩ fun x105 =>
        k (.agg #[.slice s102p s102l s102c, .slice s103p s103l s103c, .slice s104p s104l s104c, .int .u64 x105]))))))))
theorem F57_eq (k : Value → W) (t_1 : Value) (x2 : Int) (x3 : Int) (s4p : Option Addr) (s4l : Nat) (s4c : Nat) (s5p : Option Addr) (s5l : Nat) (s5c : Nat) (s6p : Option Addr) (s6l : Nat) (s6c : Nat) (x7 : Int) (x8 : Int) (x9 : Int) (x10 : Int) : compF Go.Proofs.Try.prog Go.Proofs.Try.f57 [] (Go.Proofs.Try.f57.body.getD .skip) [t_1, .agg #[.int .i64 x2, .int .i64 x3, .slice s4p s4l s4c, .slice s5p s5l s5c, .slice s6p s6l s6c, .int .u64 x7, .int .i64 x8, .int .i64 x9, .int .i64 x10]] k = F57 k t_1 x2 x3 s4p s4l s4c s5p s5l s5c s6p s6l s6c x7 x8 x9 x10 := by kernel_rfl
theorem F57_calls {t_1 : Value} {x2 : Int} {x3 : Int} {s4p : Option Addr} {s4l : Nat} {s4c : Nat} {s5p : Option Addr} {s5l : Nat} {s5c : Nat} {s6p : Option Addr} {s6l : Nat} {s6c : Nat} {x7 : Int} {x8 : Int} {x9 : Int} {x10 : Int} {w : World} {R : Ending → World → Prop} (h : F57 (fun v w => R (.returned v) w) t_1 x2 x3 s4p s4l s4c s5p s5l s5c s6p s6l s6c x7 x8 x9 x10 w) : Calls Go.Proofs.Try.prog 57 #[t_1, .agg #[.int .i64 x2, .int .i64 x3, .slice s4p s4l s4c, .slice s5p s5l s5c, .slice s6p s6l s6c, .int .u64 x7, .int .i64 x8, .int .i64 x9, .int .i64 x10]] w R :=
  calls_of_compF noNum follows [] (f := 57) (fn := Go.Proofs.Try.f57) (body := Go.Proofs.Try.f57.body.getD .skip) (args := [t_1, .agg #[.int .i64 x2, .int .i64 x3, .slice s4p s4l s4c, .slice s5p s5l s5c, .slice s6p s6l s6c, .int .u64 x7, .int .i64 x8, .int .i64 x9, .int .i64 x10]]) rfl rfl (Nat.le_of_ble_eq_true rfl) ((congrFun (F57_eq _ t_1 x2 x3 s4p s4l s4c s5p s5l s5c s6p s6l s6c x7 x8 x9 x10) w).mpr h)
theorem F57_call {t_1 : Value} {x2 : Int} {x3 : Int} {s4p : Option Addr} {s4l : Nat} {s4c : Nat} {s5p : Option Addr} {s5l : Nat} {s5c : Nat} {s6p : Option Addr} {s6l : Nat} {s6c : Nat} {x7 : Int} {x8 : Int} {x9 : Int} {x10 : Int} {w : World} {g : Fn W (RTy.leaves (.s (.agg [.slice, .slice, .slice, (.int .u64)])))} (h : F57 (fun v => Back (.s (.agg [.slice, .slice, .slice, (.int .u64)])) g (.returned v)) t_1 x2 x3 s4p s4l s4c s5p s5l s5c s6p s6l s6c x7 x8 x9 x10 w) : CallT Go.Proofs.Try.prog 57 [t_1, .agg #[.int .i64 x2, .int .i64 x3, .slice s4p s4l s4c, .slice s5p s5l s5c, .slice s6p s6l s6c, .int .u64 x7, .int .i64 x8, .int .i64 x9, .int .i64 x10]] (.s (.agg [.slice, .slice, .slice, (.int .u64)])) g w := F57_calls h

/-! ## impl.SRRun -/
def F26_L1 (k : Value → W) (again10 : Value → Option Addr → Nat → Nat → Option Addr → Nat → Nat → Int → Int → W) (t_5 : Value) (out_6p : Option Addr) (out_6l : Nat) (out_6c : Nat) (s7p : Option Addr) (s7l : Nat) (s7c : Nat) (x8 : Int) (x9 : Int) : W :=
 BIf (decide (x9 < x8)) (
  NN s7p fun a11 =>
  Req (0 ≤ x9 ∧ x9 < ((s7l : Nat) : Int)) <|
  LoadT (.int .i64) ((a11.add (x9.toNat * 9)).add 0) fun x12 =>
  LoadT (.int .i64) ((a11.add (x9.toNat * 9)).add 1) fun x13 =>
  LoadT .slice ((a11.add (x9.toNat * 9)).add 2) fun s14p s14l s14c =>
  LoadT .slice ((a11.add (x9.toNat * 9)).add 3) fun s15p s15l s15c =>
  LoadT .slice ((a11.add (x9.toNat * 9)).add 4) fun s16p s16l s16c =>
  LoadT (.int .u64) ((a11.add (x9.toNat * 9)).add 5) fun x17 =>
  LoadT (.int .i64) ((a11.add (x9.toNat * 9)).add 6) fun x18 =>
  LoadT (.int .i64) ((a11.add (x9.toNat * 9)).add 7) fun x19 =>
  LoadT (.int .i64) ((a11.add (x9.toNat * 9)).add 8) fun x20 =>
  New [.int .i64 0, .int .i64 0, .slice none 0 0, .slice none 0 0, .slice none 0 0, .int .u64 0, .int .i64 0, .int .i64 0, .int .i64 0] 49 fun n21 =>
  Store1 ⟨n21, 0, none⟩ (.int .i64 x12) <|
  Store1 ⟨n21, 1, none⟩ (.int .i64 x13) <|
  Store1 ⟨n21, 2, none⟩ (.slice s14p s14l s14c) <|
  Store1 ⟨n21, 3, none⟩ (.slice s15p s15l s15c) <|
  Store1 ⟨n21, 4, none⟩ (.slice s16p s16l s16c) <|
  Store1 ⟨n21, 5, none⟩ (.int .u64 x17) <|
  Store1 ⟨n21, 6, none⟩ (.int .i64 x18) <|
  Store1 ⟨n21, 7, none⟩ (.int .i64 x19) <|
  Store1 ⟨n21, 8, none⟩ (.int .i64 x20) <|
  LoadT (.int .i64) ⟨n21, 0, none⟩ fun x22 =>
  LoadT (.int .i64) ⟨n21, 1, none⟩ fun x23 =>
  LoadT .slice ⟨n21, 2, none⟩ fun s24p s24l s24c =>
  LoadT .slice ⟨n21, 3, none⟩ fun s25p s25l s25c =>
  LoadT .slice ⟨n21, 4, none⟩ fun s26p s26l s26c =>
  LoadT (.int .u64) ⟨n21, 5, none⟩ fun x27 =>
  LoadT (.int .i64) ⟨n21, 6, none⟩ fun x28 =>
  LoadT (.int .i64) ⟨n21, 7, none⟩ fun x29 =>
  LoadT (.int .i64) ⟨n21, 8, none⟩ fun x30 =>
  CallT Go.Proofs.Try.prog 57 [t_5, .agg #[.int .i64 x22, .int .i64 x23, .slice s24p s24l s24c, .slice s25p s25l s25c, .slice s26p s26l s26c, .int .u64 x27, .int .i64 x28, .int .i64 x29, .int .i64 x30]] (.s (.agg [.slice, .slice, .slice, (.int .u64)])) fun s31p s31l s31c s32p s32l s32c s33p s33l s33c x34 =>
  RawT Go.Proofs.Try.prog (Instr.buildSlice 55 1 [(0, .agg #[.slice s31p s31l s31c, .slice s32p s32l s32c, .slice s33p s33l s33c, .int .u64 x34])].toArray) (.s (.one .slice)) fun s35p s35l s35c =>
  NextT Go.Proofs.Try.prog (builtin .append #[55, 55] 55 [false, false].toArray [.slice out_6p out_6l out_6c, .slice s35p s35l s35c].toArray) (.s (.one .slice)) fun s36p s36l s36c =>
  again10 t_5 s36p s36l s36c s7p s7l s7c x8 (addI .i64 x9 1)) (
  k (.slice out_6p out_6l out_6c))
theorem F26_L1_rule {k : Value → W} (I : Value → Option Addr → Nat → Nat → Option Addr → Nat → Nat → Int → Int → W) (μ : Value → Option Addr → Nat → Nat → Option Addr → Nat → Nat → Int → Int → World → Nat)
  (hr : ∀ (t_5 : Value) (out_6p : Option Addr) (out_6l : Nat) (out_6c : Nat) (s7p : Option Addr) (s7l : Nat) (s7c : Nat) (x8 : Int) (x9 : Int) (w : World), I t_5 out_6p out_6l out_6c s7p s7l s7c x8 x9 w → F26_L1 k (fun t_5' out_6p' out_6l' out_6c' s7p' s7l' s7c' x8' x9' w' => I t_5' out_6p' out_6l' out_6c' s7p' s7l' s7c' x8' x9' w' ∧ μ t_5' out_6p' out_6l' out_6c' s7p' s7l' s7c' x8' x9' w' < μ t_5 out_6p out_6l out_6c s7p s7l s7c x8 x9 w) t_5 out_6p out_6l out_6c s7p s7l s7c x8 x9 w)
  {w : World} {t_5 : Value} {out_6p : Option Addr} {out_6l : Nat} {out_6c : Nat} {s7p : Option Addr} {s7l : Nat} {s7c : Nat} {x8 : Int} {x9 : Int} (h : I t_5 out_6p out_6l out_6c s7p s7l s7c x8 x9 w) : Loop [.any, .slice, .slice, (.int .i64), (.int .i64)] (F26_L1 k) t_5 out_6p out_6l out_6c s7p s7l s7c x8 x9 w :=
  Loop_intro (ts := [.any, .slice, .slice, (.int .i64), (.int .i64)]) (s := (t_5, (out_6p, out_6l, out_6c), (s7p, s7l, s7c), x8, x9, ())) (fun s w => I s.1 s.2.1.1 s.2.1.2.1 s.2.1.2.2 s.2.2.1.1 s.2.2.1.2.1 s.2.2.1.2.2 s.2.2.2.1 s.2.2.2.2.1 w) (fun s w => μ s.1 s.2.1.1 s.2.1.2.1 s.2.1.2.2 s.2.2.1.1 s.2.2.1.2.1 s.2.2.1.2.2 s.2.2.2.1 s.2.2.2.2.1 w) h (fun s w h => hr s.1 s.2.1.1 s.2.1.2.1 s.2.1.2.2 s.2.2.1.1 s.2.2.1.2.1 s.2.2.1.2.2 s.2.2.2.1 s.2.2.2.2.1 w h)
def F26 (k : Value → W) (dims_1 : Int) (seed_2 : Int) (steps_3p : Option Addr) (steps_3l : Nat) (steps_3c : Nat) : W :=
 CallT Go.Proofs.Try.prog 56 [.int .u64 dims_1, .int .u64 (IntKind.wrap .u64 seed_2)] (.s (.one .any)) fun v4 =>
 Loop [.any, .slice, .slice, (.int .i64), (.int .i64)] (F26_L1 k) v4 none 0 0 steps_3p steps_3l steps_3c ((steps_3l : Nat) : Int) 0
theorem F26_eq (k : Value → W) (dims_1 : Int) (seed_2 : Int) (steps_3p : Option Addr) (steps_3l : Nat) (steps_3c : Nat) : compF Go.Proofs.Try.prog Go.Proofs.Try.f26 [(4, [(7, .any), (8, .slice), (15, .slice), (16, (.int .i64)), (17, (.int .i64))])] (Go.Proofs.Try.f26.body.getD .skip) [.int .u64 dims_1, .int .i64 seed_2, .slice steps_3p steps_3l steps_3c] k = F26 k dims_1 seed_2 steps_3p steps_3l steps_3c := by kernel_rfl
theorem F26_calls {dims_1 : Int} {seed_2 : Int} {steps_3p : Option Addr} {steps_3l : Nat} {steps_3c : Nat} {w : World} {R : Ending → World → Prop} (h : F26 (fun v w => R (.returned v) w) dims_1 seed_2 steps_3p steps_3l steps_3c w) : Calls Go.Proofs.Try.prog 26 #[.int .u64 dims_1, .int .i64 seed_2, .slice steps_3p steps_3l steps_3c] w R :=
  calls_of_compF noNum follows [(4, [(7, .any), (8, .slice), (15, .slice), (16, (.int .i64)), (17, (.int .i64))])] (f := 26) (fn := Go.Proofs.Try.f26) (body := Go.Proofs.Try.f26.body.getD .skip) (args := [.int .u64 dims_1, .int .i64 seed_2, .slice steps_3p steps_3l steps_3c]) rfl rfl (Nat.le_of_ble_eq_true rfl) ((congrFun (F26_eq _ dims_1 seed_2 steps_3p steps_3l steps_3c) w).mpr h)
theorem F26_call {dims_1 : Int} {seed_2 : Int} {steps_3p : Option Addr} {steps_3l : Nat} {steps_3c : Nat} {w : World} {g : Fn W (RTy.leaves (.s (.one .slice)))} (h : F26 (fun v => Back (.s (.one .slice)) g (.returned v)) dims_1 seed_2 steps_3p steps_3l steps_3c w) : CallT Go.Proofs.Try.prog 26 [.int .u64 dims_1, .int .i64 seed_2, .slice steps_3p steps_3l steps_3c] (.s (.one .slice)) g w := F26_calls h

/-! ## laws.rtBox -/
def F13_L1 (k : Value → W) (again16 : Int → Addr → Option Addr → Nat → Nat → Option Addr → Nat → Nat → Int → W) (dims_11 : Int) (m_12 : Addr) (low_13p : Option Addr) (low_13l : Nat) (low_13c : Nat) (high_14p : Option Addr) (high_14l : Nat) (high_14c : Nat) (i_15 : Int) : W :=
 BIf (decide (i_15 < dims_11)) (
  Req (0 ≤ addI .i64 1 i_15 ∧ addI .i64 1 i_15 < (8 : Int)) <|
  LoadT (.int .i8) (m_12.add ((addI .i64 1 i_15).toNat)) fun x17 =>
  Req (12 ≠ (0 : Int)) <|
  RawT Go.Proofs.Try.prog (Instr.buildSlice 47 1 [(0, .int .i64 (IntKind.wrap .i64 (remI x17 12)))].toArray) (.s (.one .slice)) fun s18p s18l s18c =>
  NextT Go.Proofs.Try.prog (builtin .append #[47, 47] 47 [false, false].toArray [.slice low_13p low_13l low_13c, .slice s18p s18l s18c].toArray) (.s (.one .slice)) fun s19p s19l s19c =>
  Drw <|
  Req (0 ≤ addI .i64 1 i_15 ∧ addI .i64 1 i_15 < (8 : Int)) <|
  LoadT (.int .i8) (m_12.add ((addI .i64 1 i_15).toNat)) fun x20 =>
  Req (12 ≠ (0 : Int)) <|
  Req (0 ≤ addI .i64 4 i_15 ∧ addI .i64 4 i_15 < (8 : Int)) <|
  LoadT (.int .i8) (m_12.add ((addI .i64 4 i_15).toNat)) fun x21 =>
  Req (16 ≠ (0 : Int)) <|
  RawT Go.Proofs.Try.prog (Instr.buildSlice 47 1 [(0, .int .i64 (addI .i64 (IntKind.wrap .i64 (remI x20 12)) (IntKind.wrap .i64 (remI (IntKind.wrap .u8 x21) 16))))].toArray) (.s (.one .slice)) fun s22p s22l s22c =>
  Chk1 (m_12.add ((addI .i64 4 i_15).toNat)) (.int .i8 x21) <|
  Chk1 (m_12.add ((addI .i64 1 i_15).toNat)) (.int .i8 x20) <|
  NextT Go.Proofs.Try.prog (builtin .append #[47, 47] 47 [false, false].toArray [.slice high_14p high_14l high_14c, .slice s22p s22l s22c].toArray) (.s (.one .slice)) fun s23p s23l s23c =>
  Chk1 (m_12.add ((addI .i64 4 i_15).toNat)) (.int .i8 x21) <|
  Chk1 (m_12.add ((addI .i64 1 i_15).toNat)) (.int .i8 x20) <|
  again16 dims_11 m_12 s19p s19l s19c s23p s23l s23c (addI .i64 i_15 1)) (
  k (.tuple #[.slice low_13p low_13l low_13c, .slice high_14p high_14l high_14c]))
theorem F13_L1_rule {k : Value → W} (I : Int → Addr → Option Addr → Nat → Nat → Option Addr → Nat → Nat → Int → W) (μ : Int → Addr → Option Addr → Nat → Nat → Option Addr → Nat → Nat → Int → World → Nat)
  (hr : ∀ (dims_11 : Int) (m_12 : Addr) (low_13p : Option Addr) (low_13l : Nat) (low_13c : Nat) (high_14p : Option Addr) (high_14l : Nat) (high_14c : Nat) (i_15 : Int) (w : World), I dims_11 m_12 low_13p low_13l low_13c high_14p high_14l high_14c i_15 w → F13_L1 k (fun dims_11' m_12' low_13p' low_13l' low_13c' high_14p' high_14l' high_14c' i_15' w' => I dims_11' m_12' low_13p' low_13l' low_13c' high_14p' high_14l' high_14c' i_15' w' ∧ μ dims_11' m_12' low_13p' low_13l' low_13c' high_14p' high_14l' high_14c' i_15' w' < μ dims_11 m_12 low_13p low_13l low_13c high_14p high_14l high_14c i_15 w) dims_11 m_12 low_13p low_13l low_13c high_14p high_14l high_14c i_15 w)
  {w : World} {dims_11 : Int} {m_12 : Addr} {low_13p : Option Addr} {low_13l : Nat} {low_13c : Nat} {high_14p : Option Addr} {high_14l : Nat} {high_14c : Nat} {i_15 : Int} (h : I dims_11 m_12 low_13p low_13l low_13c high_14p high_14l high_14c i_15 w) : Loop [(.int .i64), .addr, .slice, .slice, (.int .i64)] (F13_L1 k) dims_11 m_12 low_13p low_13l low_13c high_14p high_14l high_14c i_15 w :=
  Loop_intro (ts := [(.int .i64), .addr, .slice, .slice, (.int .i64)]) (s := (dims_11, m_12, (low_13p, low_13l, low_13c), (high_14p, high_14l, high_14c), i_15, ())) (fun s w => I s.1 s.2.1 s.2.2.1.1 s.2.2.1.2.1 s.2.2.1.2.2 s.2.2.2.1.1 s.2.2.2.1.2.1 s.2.2.2.1.2.2 s.2.2.2.2.1 w) (fun s w => μ s.1 s.2.1 s.2.2.1.1 s.2.2.1.2.1 s.2.2.1.2.2 s.2.2.2.1.1 s.2.2.2.1.2.1 s.2.2.2.1.2.2 s.2.2.2.2.1 w) h (fun s w h => hr s.1 s.2.1 s.2.2.1.1 s.2.2.1.2.1 s.2.2.1.2.2 s.2.2.2.1.1 s.2.2.2.1.2.1 s.2.2.2.1.2.2 s.2.2.2.2.1 w h)
def F13 (k : Value → W) (dims_1 : Int) (x2 : Int) (x3 : Int) (x4 : Int) (x5 : Int) (x6 : Int) (x7 : Int) (x8 : Int) (x9 : Int) : W :=
 New [.int .i8 x2, .int .i8 x3, .int .i8 x4, .int .i8 x5, .int .i8 x6, .int .i8 x7, .int .i8 x8, .int .i8 x9] 45 fun n10 =>
 Loop [(.int .i64), .addr, .slice, .slice, (.int .i64)] (F13_L1 k) dims_1 ⟨n10, 0, none⟩ none 0 0 none 0 0 0
theorem F13_eq (k : Value → W) (dims_1 : Int) (x2 : Int) (x3 : Int) (x4 : Int) (x5 : Int) (x6 : Int) (x7 : Int) (x8 : Int) (x9 : Int) : compF Go.Proofs.Try.prog Go.Proofs.Try.f13 [(3, [(0, (.int .i64)), (3, .addr), (6, .slice), (7, .slice), (8, (.int .i64))])] (Go.Proofs.Try.f13.body.getD .skip) [.int .i64 dims_1, .agg #[.int .i8 x2, .int .i8 x3, .int .i8 x4, .int .i8 x5, .int .i8 x6, .int .i8 x7, .int .i8 x8, .int .i8 x9]] k = F13 k dims_1 x2 x3 x4 x5 x6 x7 x8 x9 := by kernel_rfl
theorem F13_calls {dims_1 : Int} {x2 : Int} {x3 : Int} {x4 : Int} {x5 : Int} {x6 : Int} {x7 : Int} {x8 : Int} {x9 : Int} {w : World} {R : Ending → World → Prop} (h : F13 (fun v w => R (.returned v) w) dims_1 x2 x3 x4 x5 x6 x7 x8 x9 w) : Calls Go.Proofs.Try.prog 13 #[.int .i64 dims_1, .agg #[.int .i8 x2, .int .i8 x3, .int .i8 x4, .int .i8 x5, .int .i8 x6, .int .i8 x7, .int .i8 x8, .int .i8 x9]] w R :=
  calls_of_compF noNum follows [(3, [(0, (.int .i64)), (3, .addr), (6, .slice), (7, .slice), (8, (.int .i64))])] (f := 13) (fn := Go.Proofs.Try.f13) (body := Go.Proofs.Try.f13.body.getD .skip) (args := [.int .i64 dims_1, .agg #[.int .i8 x2, .int .i8 x3, .int .i8 x4, .int .i8 x5, .int .i8 x6, .int .i8 x7, .int .i8 x8, .int .i8 x9]]) rfl rfl (Nat.le_of_ble_eq_true rfl) ((congrFun (F13_eq _ dims_1 x2 x3 x4 x5 x6 x7 x8 x9) w).mpr h)
theorem F13_call {dims_1 : Int} {x2 : Int} {x3 : Int} {x4 : Int} {x5 : Int} {x6 : Int} {x7 : Int} {x8 : Int} {x9 : Int} {w : World} {g : Fn W (RTy.leaves (.tup [(.one .slice), (.one .slice)]))} (h : F13 (fun v => Back (.tup [(.one .slice), (.one .slice)]) g (.returned v)) dims_1 x2 x3 x4 x5 x6 x7 x8 x9 w) : CallT Go.Proofs.Try.prog 13 [.int .i64 dims_1, .agg #[.int .i8 x2, .int .i8 x3, .int .i8 x4, .int .i8 x5, .int .i8 x6, .int .i8 x7, .int .i8 x8, .int .i8 x9]] (.tup [(.one .slice), (.one .slice)]) g w := F13_calls h

/-! ## laws.rtDot -/
def F29_L1 (k : Value → W) (again19 : Int → Addr → Addr → Addr → Int → W) (dims_14 : Int) (m_15 : Addr) (a16 : Addr) (x_17 : Addr) (i_18 : Int) : W :=
 BIf (decide (i_18 < dims_14)) (
  Drw <|
  LoadT .slice x_17 fun s20p s20l s20c =>
  Req (0 ≤ addI .i64 1 i_18 ∧ addI .i64 1 i_18 < (8 : Int)) <|
  LoadT (.int .i8) (m_15.add ((addI .i64 1 i_18).toNat)) fun x21 =>
  Req (12 ≠ (0 : Int)) <|
  RawT Go.Proofs.Try.prog (Instr.buildSlice 47 1 [(0, .int .i64 (IntKind.wrap .i64 (remI x21 12)))].toArray) (.s (.one .slice)) fun s22p s22l s22c =>
  Chk1 (m_15.add ((addI .i64 1 i_18).toNat)) (.int .i8 x21) <|
  Chk1 x_17 (.slice s20p s20l s20c) <|
  NextT Go.Proofs.Try.prog (builtin .append #[47, 47] 47 [false, false].toArray [.slice s20p s20l s20c, .slice s22p s22l s22c].toArray) (.s (.one .slice)) fun s23p s23l s23c =>
  Chk1 (m_15.add ((addI .i64 1 i_18).toNat)) (.int .i8 x21) <|
  Store1 x_17 (.slice s23p s23l s23c) <|
  again19 dims_14 m_15 a16 x_17 (addI .i64 i_18 1)) (
  LoadT .slice (x_17.add 0) fun s24p s24l s24c =>
  LoadT (.int .i64) (x_17.add 1) fun x25 =>
  Store1 (a16.add 0) (.slice s24p s24l s24c) <|
  Store1 (a16.add 1) (.int .i64 x25) <|
  LoadT .slice (a16.add 0) fun s26p s26l s26c =>
  LoadT (.int .i64) (a16.add 1) fun x27 =>
  k (.agg #[.slice s26p s26l s26c, .int .i64 x27]))
theorem F29_L1_rule {k : Value → W} (I : Int → Addr → Addr → Addr → Int → W) (μ : Int → Addr → Addr → Addr → Int → World → Nat)
  (hr : ∀ (dims_14 : Int) (m_15 : Addr) (a16 : Addr) (x_17 : Addr) (i_18 : Int) (w : World), I dims_14 m_15 a16 x_17 i_18 w → F29_L1 k (fun dims_14' m_15' a16' x_17' i_18' w' => I dims_14' m_15' a16' x_17' i_18' w' ∧ μ dims_14' m_15' a16' x_17' i_18' w' < μ dims_14 m_15 a16 x_17 i_18 w) dims_14 m_15 a16 x_17 i_18 w)
  {w : World} {dims_14 : Int} {m_15 : Addr} {a16 : Addr} {x_17 : Addr} {i_18 : Int} (h : I dims_14 m_15 a16 x_17 i_18 w) : Loop [(.int .i64), .addr, .addr, .addr, (.int .i64)] (F29_L1 k) dims_14 m_15 a16 x_17 i_18 w :=
  Loop_intro (ts := [(.int .i64), .addr, .addr, .addr, (.int .i64)]) (s := (dims_14, m_15, a16, x_17, i_18, ())) (fun s w => I s.1 s.2.1 s.2.2.1 s.2.2.2.1 s.2.2.2.2.1 w) (fun s w => μ s.1 s.2.1 s.2.2.1 s.2.2.2.1 s.2.2.2.2.1 w) h (fun s w h => hr s.1 s.2.1 s.2.2.1 s.2.2.2.1 s.2.2.2.2.1 w h)
def F29 (k : Value → W) (dims_1 : Int) (x2 : Int) (x3 : Int) (x4 : Int) (x5 : Int) (x6 : Int) (x7 : Int) (x8 : Int) (x9 : Int) (val_10 : Int) : W :=
 New [.int .i8 x2, .int .i8 x3, .int .i8 x4, .int .i8 x5, .int .i8 x6, .int .i8 x7, .int .i8 x8, .int .i8 x9] 45 fun n11 =>
 New [.slice none 0 0, .int .i64 0] 85 fun n12 =>
 New [.slice none 0 0, .int .i64 0] 85 fun n13 =>
 Store1 ⟨n13, 0, none⟩ (.slice none 0 0) <|
 Store1 ⟨n13, 1, none⟩ (.int .i64 val_10) <|
 Loop [(.int .i64), .addr, .addr, .addr, (.int .i64)] (F29_L1 k) dims_1 ⟨n11, 0, none⟩ ⟨n12, 0, none⟩ ⟨n13, 0, none⟩ 0
theorem F29_eq (k : Value → W) (dims_1 : Int) (x2 : Int) (x3 : Int) (x4 : Int) (x5 : Int) (x6 : Int) (x7 : Int) (x8 : Int) (x9 : Int) (val_10 : Int) : compF Go.Proofs.Try.prog Go.Proofs.Try.f29 [(3, [(0, (.int .i64)), (4, .addr), (6, .addr), (7, .addr), (8, (.int .i64))])] (Go.Proofs.Try.f29.body.getD .skip) [.int .i64 dims_1, .agg #[.int .i8 x2, .int .i8 x3, .int .i8 x4, .int .i8 x5, .int .i8 x6, .int .i8 x7, .int .i8 x8, .int .i8 x9], .int .i64 val_10] k = F29 k dims_1 x2 x3 x4 x5 x6 x7 x8 x9 val_10 := by kernel_rfl
theorem F29_calls {dims_1 : Int} {x2 : Int} {x3 : Int} {x4 : Int} {x5 : Int} {x6 : Int} {x7 : Int} {x8 : Int} {x9 : Int} {val_10 : Int} {w : World} {R : Ending → World → Prop} (h : F29 (fun v w => R (.returned v) w) dims_1 x2 x3 x4 x5 x6 x7 x8 x9 val_10 w) : Calls Go.Proofs.Try.prog 29 #[.int .i64 dims_1, .agg #[.int .i8 x2, .int .i8 x3, .int .i8 x4, .int .i8 x5, .int .i8 x6, .int .i8 x7, .int .i8 x8, .int .i8 x9], .int .i64 val_10] w R :=
  calls_of_compF noNum follows [(3, [(0, (.int .i64)), (4, .addr), (6, .addr), (7, .addr), (8, (.int .i64))])] (f := 29) (fn := Go.Proofs.Try.f29) (body := Go.Proofs.Try.f29.body.getD .skip) (args := [.int .i64 dims_1, .agg #[.int .i8 x2, .int .i8 x3, .int .i8 x4, .int .i8 x5, .int .i8 x6, .int .i8 x7, .int .i8 x8, .int .i8 x9], .int .i64 val_10]) rfl rfl (Nat.le_of_ble_eq_true rfl) ((congrFun (F29_eq _ dims_1 x2 x3 x4 x5 x6 x7 x8 x9 val_10) w).mpr h)
theorem F29_call {dims_1 : Int} {x2 : Int} {x3 : Int} {x4 : Int} {x5 : Int} {x6 : Int} {x7 : Int} {x8 : Int} {x9 : Int} {val_10 : Int} {w : World} {g : Fn W (RTy.leaves (.s (.agg [.slice, (.int .i64)])))} (h : F29 (fun v => Back (.s (.agg [.slice, (.int .i64)])) g (.returned v)) dims_1 x2 x3 x4 x5 x6 x7 x8 x9 val_10 w) : CallT Go.Proofs.Try.prog 29 [.int .i64 dims_1, .agg #[.int .i8 x2, .int .i8 x3, .int .i8 x4, .int .i8 x5, .int .i8 x6, .int .i8 x7, .int .i8 x8, .int .i8 x9], .int .i64 val_10] (.s (.agg [.slice, (.int .i64)])) g w := F29_calls h

/-! ## laws.rtIn -/
def F30 (k : Value → W) (s1p : Option Addr) (s1l : Nat) (s1c : Nat) (x2 : Int) : W :=
 New [.slice s1p s1l s1c, .int .i64 x2] 85 fun n3 =>
 New [.slice none 0 0, .int .i64 0] 87 fun n4 =>
 Drw <|
 LoadT .slice ⟨n3, 0, none⟩ fun s5p s5l s5c =>
 LoadT (.int .i64) ⟨n3, 1, none⟩ fun x6 =>
 RawT Go.Proofs.Try.prog (Instr.buildSlice 47 0 [].toArray) (.s (.one .slice)) fun s7p s7l s7c =>
 Chk1 ⟨n3, 1, none⟩ (.int .i64 x6) <|
 Chk1 ⟨n3, 0, none⟩ (.slice s5p s5l s5c) <|
 NextT Go.Proofs.Try.prog (builtin .append #[47, 47] 47 [false, false].toArray [.slice s7p s7l s7c, .slice s5p s5l s5c].toArray) (.s (.one .slice)) fun s8p s8l s8c =>
 Chk1 ⟨n3, 1, none⟩ (.int .i64 x6) <|
 Store1 ⟨n4, 0, none⟩ (.slice s8p s8l s8c) <|
 Store1 ⟨n4, 1, none⟩ (.int .i64 x6) <|
 LoadT .slice ⟨n4, 0, none⟩ fun s9p s9l s9c =>
 LoadT (.int .i64) ⟨n4, 1, none⟩ fun x10 =>
 k (.agg #[.slice s9p s9l s9c, .int .i64 x10])
theorem F30_eq (k : Value → W) (s1p : Option Addr) (s1l : Nat) (s1c : Nat) (x2 : Int) : compF Go.Proofs.Try.prog Go.Proofs.Try.f30 [] (Go.Proofs.Try.f30.body.getD .skip) [.agg #[.slice s1p s1l s1c, .int .i64 x2]] k = F30 k s1p s1l s1c x2 := by kernel_rfl
theorem F30_calls {s1p : Option Addr} {s1l : Nat} {s1c : Nat} {x2 : Int} {w : World} {R : Ending → World → Prop} (h : F30 (fun v w => R (.returned v) w) s1p s1l s1c x2 w) : Calls Go.Proofs.Try.prog 30 #[.agg #[.slice s1p s1l s1c, .int .i64 x2]] w R :=
  calls_of_compF noNum follows [] (f := 30) (fn := Go.Proofs.Try.f30) (body := Go.Proofs.Try.f30.body.getD .skip) (args := [.agg #[.slice s1p s1l s1c, .int .i64 x2]]) rfl rfl (Nat.le_of_ble_eq_true rfl) ((congrFun (F30_eq _ s1p s1l s1c x2) w).mpr h)
theorem F30_call {s1p : Option Addr} {s1l : Nat} {s1c : Nat} {x2 : Int} {w : World} {g : Fn W (RTy.leaves (.s (.agg [.slice, (.int .i64)])))} (h : F30 (fun v => Back (.s (.agg [.slice, (.int .i64)])) g (.returned v)) s1p s1l s1c x2 w) : CallT Go.Proofs.Try.prog 30 [.agg #[.slice s1p s1l s1c, .int .i64 x2]] (.s (.agg [.slice, (.int .i64)])) g w := F30_calls h

/-! ## laws.rtSteps -/
def F24_J1 (k : Value → W) (again10 : Int → Option Addr → Nat → Nat → Option Addr → Nat → Nat → Option Addr → Nat → Nat → Int → Int → W) (dims_40 : Int) (moves_41p : Option Addr) (moves_41l : Nat) (moves_41c : Nat) (kinds_42p : Option Addr) (kinds_42l : Nat) (kinds_42c : Nat) (steps_43p : Option Addr) (steps_43l : Nat) (steps_43c : Nat) (n_44 : Int) (i_45 : Int) (m_46 : Addr) (k_47 : Int) (x_48 : Addr) (b49 : Bool) : W :=
 BIf b49 (
  Drw <|
  NN steps_43p fun a50 =>
  Req (0 ≤ subI .i64 ((steps_43l : Nat) : Int) 1 ∧ subI .i64 ((steps_43l : Nat) : Int) 1 < ((steps_43l : Nat) : Int)) <|
  LoadT .slice ((a50.add ((subI .i64 ((steps_43l : Nat) : Int) 1).toNat * 9)).add 2) fun s51p s51l s51c =>
  LoadT .slice (x_48.add 0) fun s52p s52l s52c =>
  LoadT (.int .i64) (x_48.add 1) fun x53 =>
  RawT Go.Proofs.Try.prog (Instr.buildSlice 46 1 [(0, .agg #[.slice s52p s52l s52c, .int .i64 x53])].toArray) (.s (.one .slice)) fun s54p s54l s54c =>
  Chk1 ((a50.add ((subI .i64 ((steps_43l : Nat) : Int) 1).toNat * 9)).add 2) (.slice s51p s51l s51c) <|
  NextT Go.Proofs.Try.prog (builtin .append #[46, 46] 46 [false, false].toArray [.slice s51p s51l s51c, .slice s54p s54l s54c].toArray) (.s (.one .slice)) fun s55p s55l s55c =>
  Chk1 (x_48.add 0) (.slice s52p s52l s52c) <|
  Chk1 (x_48.add 1) (.int .i64 x53) <|
  NN steps_43p fun a56 =>
  Req (0 ≤ subI .i64 ((steps_43l : Nat) : Int) 1 ∧ subI .i64 ((steps_43l : Nat) : Int) 1 < ((steps_43l : Nat) : Int)) <|
  Store1 ((a56.add ((subI .i64 ((steps_43l : Nat) : Int) 1).toNat * 9)).add 2) (.slice s55p s55l s55c) <|
  again10 dims_40 moves_41p moves_41l moves_41c kinds_42p kinds_42l kinds_42c steps_43p steps_43l steps_43c n_44 (addI .i64 i_45 1)) (
  LoadT .slice (x_48.add 0) fun s57p s57l s57c =>
  LoadT (.int .i64) (x_48.add 1) fun x58 =>
  RawT Go.Proofs.Try.prog (Instr.buildSlice 46 1 [(0, .agg #[.slice s57p s57l s57c, .int .i64 x58])].toArray) (.s (.one .slice)) fun s59p s59l s59c =>
  Req (0 ≤ (7 : Int) ∧ (7 : Int) < (8 : Int)) <|
  LoadT (.int .i8) (m_46.add ((7 : Int).toNat)) fun x60 =>
  Req (8 ≠ (0 : Int)) <|
  New [.int .i64 0, .int .i64 0, .slice none 0 0, .slice none 0 0, .slice none 0 0, .int .u64 0, .int .i64 0, .int .i64 0, .int .i64 0] 49 fun n61 =>
  Store1 ⟨n61, 0, none⟩ (.int .i64 k_47) <|
  Store1 ⟨n61, 1, none⟩ (.int .i64 0) <|
  Store1 ⟨n61, 2, none⟩ (.slice s59p s59l s59c) <|
  Store1 ⟨n61, 3, none⟩ (.slice none 0 0) <|
  Store1 ⟨n61, 4, none⟩ (.slice none 0 0) <|
  Store1 ⟨n61, 5, none⟩ (.int .u64 0) <|
  Store1 ⟨n61, 6, none⟩ (.int .i64 0) <|
  Store1 ⟨n61, 7, none⟩ (.int .i64 0) <|
  Store1 ⟨n61, 8, none⟩ (.int .i64 (IntKind.wrap .i64 (remI (IntKind.wrap .u8 x60) 8))) <|
  LoadT (.int .i8) (m_46.add 0) fun x62 =>
  LoadT (.int .i8) (m_46.add 1) fun x63 =>
  LoadT (.int .i8) (m_46.add 2) fun x64 =>
  LoadT (.int .i8) (m_46.add 3) fun x65 =>
  LoadT (.int .i8) (m_46.add 4) fun x66 =>
  LoadT (.int .i8) (m_46.add 5) fun x67 =>
  LoadT (.int .i8) (m_46.add 6) fun x68 =>
  LoadT (.int .i8) (m_46.add 7) fun x69 =>
  CallT Go.Proofs.Try.prog 13 [.int .i64 dims_40, .agg #[.int .i8 x62, .int .i8 x63, .int .i8 x64, .int .i8 x65, .int .i8 x66, .int .i8 x67, .int .i8 x68, .int .i8 x69]] (.tup [(.one .slice), (.one .slice)]) fun s70p s70l s70c s71p s71l s71c =>
  Store1 ⟨n61, 3, none⟩ (.slice s70p s70l s70c) <|
  Store1 ⟨n61, 4, none⟩ (.slice s71p s71l s71c) <|
  LoadT (.int .i64) ⟨n61, 0, none⟩ fun x72 =>
  LoadT (.int .i64) ⟨n61, 1, none⟩ fun x73 =>
  LoadT .slice ⟨n61, 2, none⟩ fun s74p s74l s74c =>
  LoadT .slice ⟨n61, 3, none⟩ fun s75p s75l s75c =>
  LoadT .slice ⟨n61, 4, none⟩ fun s76p s76l s76c =>
  LoadT (.int .u64) ⟨n61, 5, none⟩ fun x77 =>
  LoadT (.int .i64) ⟨n61, 6, none⟩ fun x78 =>
  LoadT (.int .i64) ⟨n61, 7, none⟩ fun x79 =>
  LoadT (.int .i64) ⟨n61, 8, none⟩ fun x80 =>
  RawT Go.Proofs.Try.prog (Instr.buildSlice 57 1 [(0, .agg #[.int .i64 x72, .int .i64 x73, .slice s74p s74l s74c, .slice s75p s75l s75c, .slice s76p s76l s76c, .int .u64 x77, .int .i64 x78, .int .i64 x79, .int .i64 x80])].toArray) (.s (.one .slice)) fun s81p s81l s81c =>
  NextT Go.Proofs.Try.prog (builtin .append #[57, 57] 57 [false, false].toArray [.slice steps_43p steps_43l steps_43c, .slice s81p s81l s81c].toArray) (.s (.one .slice)) fun s82p s82l s82c =>
  again10 dims_40 moves_41p moves_41l moves_41c kinds_42p kinds_42l kinds_42c s82p s82l s82c n_44 (addI .i64 i_45 1))
def F24_J2 (k : Value → W) (steps_83p : Option Addr) (steps_83l : Nat) (steps_83c : Nat) : W :=
 RawT Go.Proofs.Try.prog (Instr.buildSlice 57 1 [(0, .agg #[.int .i64 6, .int .i64 0, .slice none 0 0, .slice none 0 0, .slice none 0 0, .int .u64 0, .int .i64 0, .int .i64 0, .int .i64 0])].toArray) (.s (.one .slice)) fun s84p s84l s84c =>
 NextT Go.Proofs.Try.prog (builtin .append #[57, 57] 57 [false, false].toArray [.slice steps_83p steps_83l steps_83c, .slice s84p s84l s84c].toArray) (.s (.one .slice)) fun s85p s85l s85c =>
 k (.slice s85p s85l s85c)
def F24_L1 (k : Value → W) (again10 : Int → Option Addr → Nat → Nat → Option Addr → Nat → Nat → Option Addr → Nat → Nat → Int → Int → W) (dims_4 : Int) (moves_5p : Option Addr) (moves_5l : Nat) (moves_5c : Nat) (kinds_6p : Option Addr) (kinds_6l : Nat) (kinds_6c : Nat) (steps_7p : Option Addr) (steps_7l : Nat) (steps_7c : Nat) (n_8 : Int) (i_9 : Int) : W :=
 BIf (decide (i_9 < ((moves_5l : Nat) : Int))) (
  BIf (decide (i_9 < 60)) (
   NN moves_5p fun a11 =>
   Req (0 ≤ i_9 ∧ i_9 < ((moves_5l : Nat) : Int)) <|
   LoadT (.int .i8) ((a11.add (i_9.toNat * 8)).add 0) fun x12 =>
   LoadT (.int .i8) ((a11.add (i_9.toNat * 8)).add 1) fun x13 =>
   LoadT (.int .i8) ((a11.add (i_9.toNat * 8)).add 2) fun x14 =>
   LoadT (.int .i8) ((a11.add (i_9.toNat * 8)).add 3) fun x15 =>
   LoadT (.int .i8) ((a11.add (i_9.toNat * 8)).add 4) fun x16 =>
   LoadT (.int .i8) ((a11.add (i_9.toNat * 8)).add 5) fun x17 =>
   LoadT (.int .i8) ((a11.add (i_9.toNat * 8)).add 6) fun x18 =>
   LoadT (.int .i8) ((a11.add (i_9.toNat * 8)).add 7) fun x19 =>
   New [.int .i8 0, .int .i8 0, .int .i8 0, .int .i8 0, .int .i8 0, .int .i8 0, .int .i8 0, .int .i8 0] 45 fun n20 =>
   Store1 ⟨n20, 0, none⟩ (.int .i8 x12) <|
   Store1 ⟨n20, 1, none⟩ (.int .i8 x13) <|
   Store1 ⟨n20, 2, none⟩ (.int .i8 x14) <|
   Store1 ⟨n20, 3, none⟩ (.int .i8 x15) <|
   Store1 ⟨n20, 4, none⟩ (.int .i8 x16) <|
   Store1 ⟨n20, 5, none⟩ (.int .i8 x17) <|
   Store1 ⟨n20, 6, none⟩ (.int .i8 x18) <|
   Store1 ⟨n20, 7, none⟩ (.int .i8 x19) <|
   Req (0 ≤ (0 : Int) ∧ (0 : Int) < (8 : Int)) <|
   LoadT (.int .i8) ((⟨n20, 0, none⟩ : Addr).add ((0 : Int).toNat)) fun x21 =>
   Req (((kinds_6l : Nat) : Int) ≠ (0 : Int)) <|
   NN kinds_6p fun a22 =>
   Req (0 ≤ remI (IntKind.wrap .i64 (IntKind.wrap .u8 x21)) ((kinds_6l : Nat) : Int) ∧ remI (IntKind.wrap .i64 (IntKind.wrap .u8 x21)) ((kinds_6l : Nat) : Int) < ((kinds_6l : Nat) : Int)) <|
   LoadT (.int .i64) (a22.add ((remI (IntKind.wrap .i64 (IntKind.wrap .u8 x21)) ((kinds_6l : Nat) : Int)).toNat)) fun x23 =>
   LoadT (.int .i8) ⟨n20, 0, none⟩ fun x24 =>
   LoadT (.int .i8) ⟨n20, 1, none⟩ fun x25 =>
   LoadT (.int .i8) ⟨n20, 2, none⟩ fun x26 =>
   LoadT (.int .i8) ⟨n20, 3, none⟩ fun x27 =>
   LoadT (.int .i8) ⟨n20, 4, none⟩ fun x28 =>
   LoadT (.int .i8) ⟨n20, 5, none⟩ fun x29 =>
   LoadT (.int .i8) ⟨n20, 6, none⟩ fun x30 =>
   LoadT (.int .i8) ⟨n20, 7, none⟩ fun x31 =>
   CallT Go.Proofs.Try.prog 29 [.int .i64 dims_4, .agg #[.int .i8 x24, .int .i8 x25, .int .i8 x26, .int .i8 x27, .int .i8 x28, .int .i8 x29, .int .i8 x30, .int .i8 x31], .int .i64 (addI .i64 n_8 1)] (.s (.agg [.slice, (.int .i64)])) fun s32p s32l s32c x33 =>
   CallT Go.Proofs.Try.prog 30 [.agg #[.slice s32p s32l s32c, .int .i64 x33]] (.s (.agg [.slice, (.int .i64)])) fun s34p s34l s34c x35 =>
   New [.slice none 0 0, .int .i64 0] 87 fun n36 =>
   Store1 ⟨n36, 0, none⟩ (.slice s34p s34l s34c) <|
   Store1 ⟨n36, 1, none⟩ (.int .i64 x35) <|
   Req (0 ≤ (0 : Int) ∧ (0 : Int) < (8 : Int)) <|
   LoadT (.int .i8) ((⟨n20, 0, none⟩ : Addr).add ((0 : Int).toNat)) fun x37 =>
   Req (64 ≠ (0 : Int)) <|
   BIf (decide ((quoI .u8 (IntKind.wrap .u8 x37) 64) > 1)) (
    BIf (decide (((steps_7l : Nat) : Int) > 0)) (
     NN steps_7p fun a38 =>
     Req (0 ≤ subI .i64 ((steps_7l : Nat) : Int) 1 ∧ subI .i64 ((steps_7l : Nat) : Int) 1 < ((steps_7l : Nat) : Int)) <|
     LoadT (.int .i64) (a38.add ((subI .i64 ((steps_7l : Nat) : Int) 1).toNat * 9)) fun x39 =>
     BIf (x39 == x23) (
      F24_J1 k again10 dims_4 moves_5p moves_5l moves_5c kinds_6p kinds_6l kinds_6c steps_7p steps_7l steps_7c (addI .i64 n_8 1) i_9 ⟨n20, 0, none⟩ x23 ⟨n36, 0, none⟩ (decide (x23 ≤ 3))) (
      F24_J1 k again10 dims_4 moves_5p moves_5l moves_5c kinds_6p kinds_6l kinds_6c steps_7p steps_7l steps_7c (addI .i64 n_8 1) i_9 ⟨n20, 0, none⟩ x23 ⟨n36, 0, none⟩ false)) (
     F24_J1 k again10 dims_4 moves_5p moves_5l moves_5c kinds_6p kinds_6l kinds_6c steps_7p steps_7l steps_7c (addI .i64 n_8 1) i_9 ⟨n20, 0, none⟩ x23 ⟨n36, 0, none⟩ false)) (
    F24_J1 k again10 dims_4 moves_5p moves_5l moves_5c kinds_6p kinds_6l kinds_6c steps_7p steps_7l steps_7c (addI .i64 n_8 1) i_9 ⟨n20, 0, none⟩ x23 ⟨n36, 0, none⟩ false)) (
   F24_J2 k steps_7p steps_7l steps_7c)) (
  F24_J2 k steps_7p steps_7l steps_7c)
theorem F24_L1_rule {k : Value → W} (I : Int → Option Addr → Nat → Nat → Option Addr → Nat → Nat → Option Addr → Nat → Nat → Int → Int → W) (μ : Int → Option Addr → Nat → Nat → Option Addr → Nat → Nat → Option Addr → Nat → Nat → Int → Int → World → Nat)
  (hr : ∀ (dims_4 : Int) (moves_5p : Option Addr) (moves_5l : Nat) (moves_5c : Nat) (kinds_6p : Option Addr) (kinds_6l : Nat) (kinds_6c : Nat) (steps_7p : Option Addr) (steps_7l : Nat) (steps_7c : Nat) (n_8 : Int) (i_9 : Int) (w : World), I dims_4 moves_5p moves_5l moves_5c kinds_6p kinds_6l kinds_6c steps_7p steps_7l steps_7c n_8 i_9 w → F24_L1 k (fun dims_4' moves_5p' moves_5l' moves_5c' kinds_6p' kinds_6l' kinds_6c' steps_7p' steps_7l' steps_7c' n_8' i_9' w' => I dims_4' moves_5p' moves_5l' moves_5c' kinds_6p' kinds_6l' kinds_6c' steps_7p' steps_7l' steps_7c' n_8' i_9' w' ∧ μ dims_4' moves_5p' moves_5l' moves_5c' kinds_6p' kinds_6l' kinds_6c' steps_7p' steps_7l' steps_7c' n_8' i_9' w' < μ dims_4 moves_5p moves_5l moves_5c kinds_6p kinds_6l kinds_6c steps_7p steps_7l steps_7c n_8 i_9 w) dims_4 moves_5p moves_5l moves_5c kinds_6p kinds_6l kinds_6c steps_7p steps_7l steps_7c n_8 i_9 w)
  {w : World} {dims_4 : Int} {moves_5p : Option Addr} {moves_5l : Nat} {moves_5c : Nat} {kinds_6p : Option Addr} {kinds_6l : Nat} {kinds_6c : Nat} {steps_7p : Option Addr} {steps_7l : Nat} {steps_7c : Nat} {n_8 : Int} {i_9 : Int} (h : I dims_4 moves_5p moves_5l moves_5c kinds_6p kinds_6l kinds_6c steps_7p steps_7l steps_7c n_8 i_9 w) : Loop [(.int .i64), .slice, .slice, .slice, (.int .i64), (.int .i64)] (F24_L1 k) dims_4 moves_5p moves_5l moves_5c kinds_6p kinds_6l kinds_6c steps_7p steps_7l steps_7c n_8 i_9 w :=
  Loop_intro (ts := [(.int .i64), .slice, .slice, .slice, (.int .i64), (.int .i64)]) (s := (dims_4, (moves_5p, moves_5l, moves_5c), (kinds_6p, kinds_6l, kinds_6c), (steps_7p, steps_7l, steps_7c), n_8, i_9, ())) (fun s w => I s.1 s.2.1.1 s.2.1.2.1 s.2.1.2.2 s.2.2.1.1 s.2.2.1.2.1 s.2.2.1.2.2 s.2.2.2.1.1 s.2.2.2.1.2.1 s.2.2.2.1.2.2 s.2.2.2.2.1 s.2.2.2.2.2.1 w) (fun s w => μ s.1 s.2.1.1 s.2.1.2.1 s.2.1.2.2 s.2.2.1.1 s.2.2.1.2.1 s.2.2.1.2.2 s.2.2.2.1.1 s.2.2.2.1.2.1 s.2.2.2.1.2.2 s.2.2.2.2.1 s.2.2.2.2.2.1 w) h (fun s w h => hr s.1 s.2.1.1 s.2.1.2.1 s.2.1.2.2 s.2.2.1.1 s.2.2.1.2.1 s.2.2.1.2.2 s.2.2.2.1.1 s.2.2.2.1.2.1 s.2.2.2.1.2.2 s.2.2.2.2.1 s.2.2.2.2.2.1 w h)
def F24 (k : Value → W) (dims_1 : Int) (moves_2p : Option Addr) (moves_2l : Nat) (moves_2c : Nat) (kinds_3p : Option Addr) (kinds_3l : Nat) (kinds_3c : Nat) : W :=
 Loop [(.int .i64), .slice, .slice, .slice, (.int .i64), (.int .i64)] (F24_L1 k) dims_1 moves_2p moves_2l moves_2c kinds_3p kinds_3l kinds_3c none 0 0 0 0
theorem F24_eq (k : Value → W) (dims_1 : Int) (moves_2p : Option Addr) (moves_2l : Nat) (moves_2c : Nat) (kinds_3p : Option Addr) (kinds_3l : Nat) (kinds_3c : Nat) : compF Go.Proofs.Try.prog Go.Proofs.Try.f24 [(4, [(0, (.int .i64)), (1, .slice), (2, .slice), (7, .slice), (8, (.int .i64)), (9, (.int .i64))])] (Go.Proofs.Try.f24.body.getD .skip) [.int .i64 dims_1, .slice moves_2p moves_2l moves_2c, .slice kinds_3p kinds_3l kinds_3c] k = F24 k dims_1 moves_2p moves_2l moves_2c kinds_3p kinds_3l kinds_3c := by kernel_rfl
theorem F24_calls {dims_1 : Int} {moves_2p : Option Addr} {moves_2l : Nat} {moves_2c : Nat} {kinds_3p : Option Addr} {kinds_3l : Nat} {kinds_3c : Nat} {w : World} {R : Ending → World → Prop} (h : F24 (fun v w => R (.returned v) w) dims_1 moves_2p moves_2l moves_2c kinds_3p kinds_3l kinds_3c w) : Calls Go.Proofs.Try.prog 24 #[.int .i64 dims_1, .slice moves_2p moves_2l moves_2c, .slice kinds_3p kinds_3l kinds_3c] w R :=
  calls_of_compF noNum follows [(4, [(0, (.int .i64)), (1, .slice), (2, .slice), (7, .slice), (8, (.int .i64)), (9, (.int .i64))])] (f := 24) (fn := Go.Proofs.Try.f24) (body := Go.Proofs.Try.f24.body.getD .skip) (args := [.int .i64 dims_1, .slice moves_2p moves_2l moves_2c, .slice kinds_3p kinds_3l kinds_3c]) rfl rfl (Nat.le_of_ble_eq_true rfl) ((congrFun (F24_eq _ dims_1 moves_2p moves_2l moves_2c kinds_3p kinds_3l kinds_3c) w).mpr h)
theorem F24_call {dims_1 : Int} {moves_2p : Option Addr} {moves_2l : Nat} {moves_2c : Nat} {kinds_3p : Option Addr} {kinds_3l : Nat} {kinds_3c : Nat} {w : World} {g : Fn W (RTy.leaves (.s (.one .slice)))} (h : F24 (fun v => Back (.s (.one .slice)) g (.returned v)) dims_1 moves_2p moves_2l moves_2c kinds_3p kinds_3l kinds_3c w) : CallT Go.Proofs.Try.prog 24 [.int .i64 dims_1, .slice moves_2p moves_2l moves_2c, .slice kinds_3p kinds_3l kinds_3c] (.s (.one .slice)) g w := F24_calls h

/-! ## laws.srMoves -/
def F25_L2 (k : Value → W) (again5 : Option Addr → Nat → Nat → Option Addr → Nat → Nat → Int → W) (again21 : Option Addr → Nat → Nat → Option Addr → Nat → Nat → Int → Addr → Int → W) (moves_16p : Option Addr) (moves_16l : Nat) (moves_16c : Nat) (out_17p : Option Addr) (out_17l : Nat) (out_17c : Nat) (i_18 : Int) (m_19 : Addr) (k_20 : Int) : W :=
 BIf (decide (k_20 < 4)) (
  Req (0 ≤ k_20 ∧ k_20 < (8 : Int)) <|
  LoadT (.int .i8) (m_19.add k_20.toNat) fun x22 =>
  Req (0 ≤ k_20 ∧ k_20 < (8 : Int)) <|
  Store1 (m_19.add k_20.toNat) (.int .i8 (andI .i8 x22 127)) <|
  again21 moves_16p moves_16l moves_16c out_17p out_17l out_17c i_18 m_19 (addI .i64 k_20 1)) (
  LoadT (.int .i8) (m_19.add 0) fun x23 =>
  LoadT (.int .i8) (m_19.add 1) fun x24 =>
  LoadT (.int .i8) (m_19.add 2) fun x25 =>
  LoadT (.int .i8) (m_19.add 3) fun x26 =>
  LoadT (.int .i8) (m_19.add 4) fun x27 =>
  LoadT (.int .i8) (m_19.add 5) fun x28 =>
  LoadT (.int .i8) (m_19.add 6) fun x29 =>
  LoadT (.int .i8) (m_19.add 7) fun x30 =>
  RawT Go.Proofs.Try.prog (Instr.buildSlice 41 1 [(0, .agg #[.int .i8 x23, .int .i8 x24, .int .i8 x25, .int .i8 x26, .int .i8 x27, .int .i8 x28, .int .i8 x29, .int .i8 x30])].toArray) (.s (.one .slice)) fun s31p s31l s31c =>
  NextT Go.Proofs.Try.prog (builtin .append #[41, 41] 41 [false, false].toArray [.slice out_17p out_17l out_17c, .slice s31p s31l s31c].toArray) (.s (.one .slice)) fun s32p s32l s32c =>
  again5 moves_16p moves_16l moves_16c s32p s32l s32c (addI .i64 i_18 1))
theorem F25_L2_rule {k : Value → W} {again5 : Option Addr → Nat → Nat → Option Addr → Nat → Nat → Int → W} (I : Option Addr → Nat → Nat → Option Addr → Nat → Nat → Int → Addr → Int → W) (μ : Option Addr → Nat → Nat → Option Addr → Nat → Nat → Int → Addr → Int → World → Nat)
  (hr : ∀ (moves_16p : Option Addr) (moves_16l : Nat) (moves_16c : Nat) (out_17p : Option Addr) (out_17l : Nat) (out_17c : Nat) (i_18 : Int) (m_19 : Addr) (k_20 : Int) (w : World), I moves_16p moves_16l moves_16c out_17p out_17l out_17c i_18 m_19 k_20 w → F25_L2 k again5 (fun moves_16p' moves_16l' moves_16c' out_17p' out_17l' out_17c' i_18' m_19' k_20' w' => I moves_16p' moves_16l' moves_16c' out_17p' out_17l' out_17c' i_18' m_19' k_20' w' ∧ μ moves_16p' moves_16l' moves_16c' out_17p' out_17l' out_17c' i_18' m_19' k_20' w' < μ moves_16p moves_16l moves_16c out_17p out_17l out_17c i_18 m_19 k_20 w) moves_16p moves_16l moves_16c out_17p out_17l out_17c i_18 m_19 k_20 w)
  {w : World} {moves_16p : Option Addr} {moves_16l : Nat} {moves_16c : Nat} {out_17p : Option Addr} {out_17l : Nat} {out_17c : Nat} {i_18 : Int} {m_19 : Addr} {k_20 : Int} (h : I moves_16p moves_16l moves_16c out_17p out_17l out_17c i_18 m_19 k_20 w) : Loop [.slice, .slice, (.int .i64), .addr, (.int .i64)] (F25_L2 k again5) moves_16p moves_16l moves_16c out_17p out_17l out_17c i_18 m_19 k_20 w :=
  Loop_intro (ts := [.slice, .slice, (.int .i64), .addr, (.int .i64)]) (s := ((moves_16p, moves_16l, moves_16c), (out_17p, out_17l, out_17c), i_18, m_19, k_20, ())) (fun s w => I s.1.1 s.1.2.1 s.1.2.2 s.2.1.1 s.2.1.2.1 s.2.1.2.2 s.2.2.1 s.2.2.2.1 s.2.2.2.2.1 w) (fun s w => μ s.1.1 s.1.2.1 s.1.2.2 s.2.1.1 s.2.1.2.1 s.2.1.2.2 s.2.2.1 s.2.2.2.1 s.2.2.2.2.1 w) h (fun s w h => hr s.1.1 s.1.2.1 s.1.2.2 s.2.1.1 s.2.1.2.1 s.2.1.2.2 s.2.2.1 s.2.2.2.1 s.2.2.2.2.1 w h)
def F25_L1 (k : Value → W) (again5 : Option Addr → Nat → Nat → Option Addr → Nat → Nat → Int → W) (moves_2p : Option Addr) (moves_2l : Nat) (moves_2c : Nat) (out_3p : Option Addr) (out_3l : Nat) (out_3c : Nat) (i_4 : Int) : W :=
 BIf (decide (i_4 < ((moves_2l : Nat) : Int))) (
  NN moves_2p fun a6 =>
  Req (0 ≤ i_4 ∧ i_4 < ((moves_2l : Nat) : Int)) <|
  LoadT (.int .i8) ((a6.add (i_4.toNat * 8)).add 0) fun x7 =>
  LoadT (.int .i8) ((a6.add (i_4.toNat * 8)).add 1) fun x8 =>
  LoadT (.int .i8) ((a6.add (i_4.toNat * 8)).add 2) fun x9 =>
  LoadT (.int .i8) ((a6.add (i_4.toNat * 8)).add 3) fun x10 =>
  LoadT (.int .i8) ((a6.add (i_4.toNat * 8)).add 4) fun x11 =>
  LoadT (.int .i8) ((a6.add (i_4.toNat * 8)).add 5) fun x12 =>
  LoadT (.int .i8) ((a6.add (i_4.toNat * 8)).add 6) fun x13 =>
  LoadT (.int .i8) ((a6.add (i_4.toNat * 8)).add 7) fun x14 =>
  New [.int .i8 0, .int .i8 0, .int .i8 0, .int .i8 0, .int .i8 0, .int .i8 0, .int .i8 0, .int .i8 0] 45 fun n15 =>
  Store1 ⟨n15, 0, none⟩ (.int .i8 x7) <|
  Store1 ⟨n15, 1, none⟩ (.int .i8 x8) <|
  Store1 ⟨n15, 2, none⟩ (.int .i8 x9) <|
  Store1 ⟨n15, 3, none⟩ (.int .i8 x10) <|
  Store1 ⟨n15, 4, none⟩ (.int .i8 x11) <|
  Store1 ⟨n15, 5, none⟩ (.int .i8 x12) <|
  Store1 ⟨n15, 6, none⟩ (.int .i8 x13) <|
  Store1 ⟨n15, 7, none⟩ (.int .i8 x14) <|
  Loop [.slice, .slice, (.int .i64), .addr, (.int .i64)] (F25_L2 k again5) moves_2p moves_2l moves_2c out_3p out_3l out_3c i_4 ⟨n15, 0, none⟩ 1) (
  k (.slice out_3p out_3l out_3c))
theorem F25_L1_rule {k : Value → W} (I : Option Addr → Nat → Nat → Option Addr → Nat → Nat → Int → W) (μ : Option Addr → Nat → Nat → Option Addr → Nat → Nat → Int → World → Nat)
  (hr : ∀ (moves_2p : Option Addr) (moves_2l : Nat) (moves_2c : Nat) (out_3p : Option Addr) (out_3l : Nat) (out_3c : Nat) (i_4 : Int) (w : World), I moves_2p moves_2l moves_2c out_3p out_3l out_3c i_4 w → F25_L1 k (fun moves_2p' moves_2l' moves_2c' out_3p' out_3l' out_3c' i_4' w' => I moves_2p' moves_2l' moves_2c' out_3p' out_3l' out_3c' i_4' w' ∧ μ moves_2p' moves_2l' moves_2c' out_3p' out_3l' out_3c' i_4' w' < μ moves_2p moves_2l moves_2c out_3p out_3l out_3c i_4 w) moves_2p moves_2l moves_2c out_3p out_3l out_3c i_4 w)
  {w : World} {moves_2p : Option Addr} {moves_2l : Nat} {moves_2c : Nat} {out_3p : Option Addr} {out_3l : Nat} {out_3c : Nat} {i_4 : Int} (h : I moves_2p moves_2l moves_2c out_3p out_3l out_3c i_4 w) : Loop [.slice, .slice, (.int .i64)] (F25_L1 k) moves_2p moves_2l moves_2c out_3p out_3l out_3c i_4 w :=
  Loop_intro (ts := [.slice, .slice, (.int .i64)]) (s := ((moves_2p, moves_2l, moves_2c), (out_3p, out_3l, out_3c), i_4, ())) (fun s w => I s.1.1 s.1.2.1 s.1.2.2 s.2.1.1 s.2.1.2.1 s.2.1.2.2 s.2.2.1 w) (fun s w => μ s.1.1 s.1.2.1 s.1.2.2 s.2.1.1 s.2.1.2.1 s.2.1.2.2 s.2.2.1 w) h (fun s w h => hr s.1.1 s.1.2.1 s.1.2.2 s.2.1.1 s.2.1.2.1 s.2.1.2.2 s.2.2.1 w h)
def F25 (k : Value → W) (moves_1p : Option Addr) (moves_1l : Nat) (moves_1c : Nat) : W :=
 Loop [.slice, .slice, (.int .i64)] (F25_L1 k) moves_1p moves_1l moves_1c none 0 0 0
theorem F25_eq (k : Value → W) (moves_1p : Option Addr) (moves_1l : Nat) (moves_1c : Nat) : compF Go.Proofs.Try.prog Go.Proofs.Try.f25 [(3, [(0, .slice), (3, .slice), (4, (.int .i64))]), (7, [(0, .slice), (3, .slice), (4, (.int .i64)), (5, .addr), (6, (.int .i64))])] (Go.Proofs.Try.f25.body.getD .skip) [.slice moves_1p moves_1l moves_1c] k = F25 k moves_1p moves_1l moves_1c := by kernel_rfl
theorem F25_calls {moves_1p : Option Addr} {moves_1l : Nat} {moves_1c : Nat} {w : World} {R : Ending → World → Prop} (h : F25 (fun v w => R (.returned v) w) moves_1p moves_1l moves_1c w) : Calls Go.Proofs.Try.prog 25 #[.slice moves_1p moves_1l moves_1c] w R :=
  calls_of_compF noNum follows [(3, [(0, .slice), (3, .slice), (4, (.int .i64))]), (7, [(0, .slice), (3, .slice), (4, (.int .i64)), (5, .addr), (6, (.int .i64))])] (f := 25) (fn := Go.Proofs.Try.f25) (body := Go.Proofs.Try.f25.body.getD .skip) (args := [.slice moves_1p moves_1l moves_1c]) rfl rfl (Nat.le_of_ble_eq_true rfl) ((congrFun (F25_eq _ moves_1p moves_1l moves_1c) w).mpr h)
theorem F25_call {moves_1p : Option Addr} {moves_1l : Nat} {moves_1c : Nat} {w : World} {g : Fn W (RTy.leaves (.s (.one .slice)))} (h : F25 (fun v => Back (.s (.one .slice)) g (.returned v)) moves_1p moves_1l moves_1c w) : CallT Go.Proofs.Try.prog 25 [.slice moves_1p moves_1l moves_1c] (.s (.one .slice)) g w := F25_calls h

/-! ## spec.rtAt -/
def F64_L1 (k : Value → W) (again6 : Option Addr → Nat → Nat → Option Addr → Nat → Nat → Int → W) (l_3p : Option Addr) (l_3l : Nat) (l_3c : Nat) (at_4p : Option Addr) (at_4l : Nat) (at_4c : Nat) (n_5 : Int) : W :=
 BIf (decide (n_5 < ((l_3l : Nat) : Int))) (
  NN l_3p fun a7 =>
  Req (0 ≤ n_5 ∧ n_5 < ((l_3l : Nat) : Int)) <|
  LoadT .slice (a7.add (n_5.toNat * 2)) fun s8p s8l s8c =>
  CallT Go.Proofs.Try.prog 59 [.slice s8p s8l s8c, .slice at_4p at_4l at_4c] (.s (.one (.int .i64))) fun x9 =>
  BIf (decide (x9 < 0)) (
   again6 l_3p l_3l l_3c at_4p at_4l at_4c (addI .i64 n_5 1)) (
   k (.int .i64 n_5))) (
  k (.int .i64 n_5))
theorem F64_L1_rule {k : Value → W} (I : Option Addr → Nat → Nat → Option Addr → Nat → Nat → Int → W) (μ : Option Addr → Nat → Nat → Option Addr → Nat → Nat → Int → World → Nat)
  (hr : ∀ (l_3p : Option Addr) (l_3l : Nat) (l_3c : Nat) (at_4p : Option Addr) (at_4l : Nat) (at_4c : Nat) (n_5 : Int) (w : World), I l_3p l_3l l_3c at_4p at_4l at_4c n_5 w → F64_L1 k (fun l_3p' l_3l' l_3c' at_4p' at_4l' at_4c' n_5' w' => I l_3p' l_3l' l_3c' at_4p' at_4l' at_4c' n_5' w' ∧ μ l_3p' l_3l' l_3c' at_4p' at_4l' at_4c' n_5' w' < μ l_3p l_3l l_3c at_4p at_4l at_4c n_5 w) l_3p l_3l l_3c at_4p at_4l at_4c n_5 w)
  {w : World} {l_3p : Option Addr} {l_3l : Nat} {l_3c : Nat} {at_4p : Option Addr} {at_4l : Nat} {at_4c : Nat} {n_5 : Int} (h : I l_3p l_3l l_3c at_4p at_4l at_4c n_5 w) : Loop [.slice, .slice, (.int .i64)] (F64_L1 k) l_3p l_3l l_3c at_4p at_4l at_4c n_5 w :=
  Loop_intro (ts := [.slice, .slice, (.int .i64)]) (s := ((l_3p, l_3l, l_3c), (at_4p, at_4l, at_4c), n_5, ())) (fun s w => I s.1.1 s.1.2.1 s.1.2.2 s.2.1.1 s.2.1.2.1 s.2.1.2.2 s.2.2.1 w) (fun s w => μ s.1.1 s.1.2.1 s.1.2.2 s.2.1.1 s.2.1.2.1 s.2.1.2.2 s.2.2.1 w) h (fun s w h => hr s.1.1 s.1.2.1 s.1.2.2 s.2.1.1 s.2.1.2.1 s.2.1.2.2 s.2.2.1 w h)
def F64 (k : Value → W) (l_1p : Option Addr) (l_1l : Nat) (l_1c : Nat) (at_2p : Option Addr) (at_2l : Nat) (at_2c : Nat) : W :=
 Loop [.slice, .slice, (.int .i64)] (F64_L1 k) l_1p l_1l l_1c at_2p at_2l at_2c 0
theorem F64_eq (k : Value → W) (l_1p : Option Addr) (l_1l : Nat) (l_1c : Nat) (at_2p : Option Addr) (at_2l : Nat) (at_2c : Nat) : compF Go.Proofs.Try.prog Go.Proofs.Try.f64 [(2, [(0, .slice), (1, .slice), (5, (.int .i64))])] (Go.Proofs.Try.f64.body.getD .skip) [.slice l_1p l_1l l_1c, .slice at_2p at_2l at_2c] k = F64 k l_1p l_1l l_1c at_2p at_2l at_2c := by kernel_rfl
theorem F64_calls {l_1p : Option Addr} {l_1l : Nat} {l_1c : Nat} {at_2p : Option Addr} {at_2l : Nat} {at_2c : Nat} {w : World} {R : Ending → World → Prop} (h : F64 (fun v w => R (.returned v) w) l_1p l_1l l_1c at_2p at_2l at_2c w) : Calls Go.Proofs.Try.prog 64 #[.slice l_1p l_1l l_1c, .slice at_2p at_2l at_2c] w R :=
  calls_of_compF noNum follows [(2, [(0, .slice), (1, .slice), (5, (.int .i64))])] (f := 64) (fn := Go.Proofs.Try.f64) (body := Go.Proofs.Try.f64.body.getD .skip) (args := [.slice l_1p l_1l l_1c, .slice at_2p at_2l at_2c]) rfl rfl (Nat.le_of_ble_eq_true rfl) ((congrFun (F64_eq _ l_1p l_1l l_1c at_2p at_2l at_2c) w).mpr h)
theorem F64_call {l_1p : Option Addr} {l_1l : Nat} {l_1c : Nat} {at_2p : Option Addr} {at_2l : Nat} {at_2c : Nat} {w : World} {g : Fn W (RTy.leaves (.s (.one (.int .i64))))} (h : F64 (fun v => Back (.s (.one (.int .i64))) g (.returned v)) l_1p l_1l l_1c at_2p at_2l at_2c w) : CallT Go.Proofs.Try.prog 64 [.slice l_1p l_1l l_1c, .slice at_2p at_2l at_2c] (.s (.one (.int .i64))) g w := F64_calls h

/-! ## spec.RTCompare -/
def F59_L1 (k : Value → W) (again6 : Option Addr → Nat → Nat → Option Addr → Nat → Nat → Int → W) (a_3p : Option Addr) (a_3l : Nat) (a_3c : Nat) (b_4p : Option Addr) (b_4l : Nat) (b_4c : Nat) (i_5 : Int) : W :=
 BIf (decide (i_5 < ((a_3l : Nat) : Int))) (
  Drw <|
  NN a_3p fun a7 =>
  Req (0 ≤ i_5 ∧ i_5 < ((a_3l : Nat) : Int)) <|
  LoadT (.int .i64) (a7.add i_5.toNat) fun x8 =>
  NN b_4p fun a9 =>
  Req (0 ≤ i_5 ∧ i_5 < ((b_4l : Nat) : Int)) <|
  LoadT (.int .i64) (a9.add i_5.toNat) fun x10 =>
  BIf (decide (x8 < x10)) (
   k (.int .i64 (-1))) (
   Drw <|
   NN a_3p fun a11 =>
   Req (0 ≤ i_5 ∧ i_5 < ((a_3l : Nat) : Int)) <|
   LoadT (.int .i64) (a11.add i_5.toNat) fun x12 =>
   NN b_4p fun a13 =>
   Req (0 ≤ i_5 ∧ i_5 < ((b_4l : Nat) : Int)) <|
   LoadT (.int .i64) (a13.add i_5.toNat) fun x14 =>
   BIf (decide (x12 > x14)) (
    k (.int .i64 1)) (
    again6 a_3p a_3l a_3c b_4p b_4l b_4c (addI .i64 i_5 1)))) (
  k (.int .i64 0))
theorem F59_L1_rule {k : Value → W} (I : Option Addr → Nat → Nat → Option Addr → Nat → Nat → Int → W) (μ : Option Addr → Nat → Nat → Option Addr → Nat → Nat → Int → World → Nat)
  (hr : ∀ (a_3p : Option Addr) (a_3l : Nat) (a_3c : Nat) (b_4p : Option Addr) (b_4l : Nat) (b_4c : Nat) (i_5 : Int) (w : World), I a_3p a_3l a_3c b_4p b_4l b_4c i_5 w → F59_L1 k (fun a_3p' a_3l' a_3c' b_4p' b_4l' b_4c' i_5' w' => I a_3p' a_3l' a_3c' b_4p' b_4l' b_4c' i_5' w' ∧ μ a_3p' a_3l' a_3c' b_4p' b_4l' b_4c' i_5' w' < μ a_3p a_3l a_3c b_4p b_4l b_4c i_5 w) a_3p a_3l a_3c b_4p b_4l b_4c i_5 w)
  {w : World} {a_3p : Option Addr} {a_3l : Nat} {a_3c : Nat} {b_4p : Option Addr} {b_4l : Nat} {b_4c : Nat} {i_5 : Int} (h : I a_3p a_3l a_3c b_4p b_4l b_4c i_5 w) : Loop [.slice, .slice, (.int .i64)] (F59_L1 k) a_3p a_3l a_3c b_4p b_4l b_4c i_5 w :=
  Loop_intro (ts := [.slice, .slice, (.int .i64)]) (s := ((a_3p, a_3l, a_3c), (b_4p, b_4l, b_4c), i_5, ())) (fun s w => I s.1.1 s.1.2.1 s.1.2.2 s.2.1.1 s.2.1.2.1 s.2.1.2.2 s.2.2.1 w) (fun s w => μ s.1.1 s.1.2.1 s.1.2.2 s.2.1.1 s.2.1.2.1 s.2.1.2.2 s.2.2.1 w) h (fun s w h => hr s.1.1 s.1.2.1 s.1.2.2 s.2.1.1 s.2.1.2.1 s.2.1.2.2 s.2.2.1 w h)
def F59 (k : Value → W) (a_1p : Option Addr) (a_1l : Nat) (a_1c : Nat) (b_2p : Option Addr) (b_2l : Nat) (b_2c : Nat) : W :=
 Loop [.slice, .slice, (.int .i64)] (F59_L1 k) a_1p a_1l a_1c b_2p b_2l b_2c 0
theorem F59_eq (k : Value → W) (a_1p : Option Addr) (a_1l : Nat) (a_1c : Nat) (b_2p : Option Addr) (b_2l : Nat) (b_2c : Nat) : compF Go.Proofs.Try.prog Go.Proofs.Try.f59 [(2, [(0, .slice), (1, .slice), (5, (.int .i64))])] (Go.Proofs.Try.f59.body.getD .skip) [.slice a_1p a_1l a_1c, .slice b_2p b_2l b_2c] k = F59 k a_1p a_1l a_1c b_2p b_2l b_2c := by kernel_rfl
theorem F59_calls {a_1p : Option Addr} {a_1l : Nat} {a_1c : Nat} {b_2p : Option Addr} {b_2l : Nat} {b_2c : Nat} {w : World} {R : Ending → World → Prop} (h : F59 (fun v w => R (.returned v) w) a_1p a_1l a_1c b_2p b_2l b_2c w) : Calls Go.Proofs.Try.prog 59 #[.slice a_1p a_1l a_1c, .slice b_2p b_2l b_2c] w R :=
  calls_of_compF noNum follows [(2, [(0, .slice), (1, .slice), (5, (.int .i64))])] (f := 59) (fn := Go.Proofs.Try.f59) (body := Go.Proofs.Try.f59.body.getD .skip) (args := [.slice a_1p a_1l a_1c, .slice b_2p b_2l b_2c]) rfl rfl (Nat.le_of_ble_eq_true rfl) ((congrFun (F59_eq _ a_1p a_1l a_1c b_2p b_2l b_2c) w).mpr h)
theorem F59_call {a_1p : Option Addr} {a_1l : Nat} {a_1c : Nat} {b_2p : Option Addr} {b_2l : Nat} {b_2c : Nat} {w : World} {g : Fn W (RTy.leaves (.s (.one (.int .i64))))} (h : F59 (fun v => Back (.s (.one (.int .i64))) g (.returned v)) a_1p a_1l a_1c b_2p b_2l b_2c w) : CallT Go.Proofs.Try.prog 59 [.slice a_1p a_1l a_1c, .slice b_2p b_2l b_2c] (.s (.one (.int .i64))) g w := F59_calls h

/-! ## spec.RTGet -/
def F58_J1 (k : Value → W) (l_5p : Option Addr) (l_5l : Nat) (l_5c : Nat) (a6 : Addr) (n_7 : Int) (b8 : Bool) : W :=
 BIf b8 (
  Store1 (a6.add 0) (.slice none 0 0) <|
  Store1 (a6.add 1) (.int .i64 0) <|
  LoadT .slice (a6.add 0) fun s9p s9l s9c =>
  LoadT (.int .i64) (a6.add 1) fun x10 =>
  k (.tuple #[.agg #[.slice s9p s9l s9c, .int .i64 x10], .bool false])) (
  NN l_5p fun a11 =>
  Req (0 ≤ n_7 ∧ n_7 < ((l_5l : Nat) : Int)) <|
  LoadT .slice ((a11.add (n_7.toNat * 2)).add 0) fun s12p s12l s12c =>
  LoadT (.int .i64) ((a11.add (n_7.toNat * 2)).add 1) fun x13 =>
  Store1 (a6.add 0) (.slice s12p s12l s12c) <|
  Store1 (a6.add 1) (.int .i64 x13) <|
  LoadT .slice (a6.add 0) fun s14p s14l s14c =>
  LoadT (.int .i64) (a6.add 1) fun x15 =>
  k (.tuple #[.agg #[.slice s14p s14l s14c, .int .i64 x15], .bool true]))
def F58 (k : Value → W) (l_1p : Option Addr) (l_1l : Nat) (l_1c : Nat) (at_2p : Option Addr) (at_2l : Nat) (at_2c : Nat) : W :=
 New [.slice none 0 0, .int .i64 0] 85 fun n3 =>
 CallT Go.Proofs.Try.prog 64 [.slice l_1p l_1l l_1c, .slice at_2p at_2l at_2c] (.s (.one (.int .i64))) fun x4 =>
 BIf (x4 == ((l_1l : Nat) : Int)) (
  F58_J1 k l_1p l_1l l_1c ⟨n3, 0, none⟩ x4 true) (
  NN l_1p fun a16 =>
  Req (0 ≤ x4 ∧ x4 < ((l_1l : Nat) : Int)) <|
  LoadT .slice (a16.add (x4.toNat * 2)) fun s17p s17l s17c =>
  CallT Go.Proofs.Try.prog 59 [.slice s17p s17l s17c, .slice at_2p at_2l at_2c] (.s (.one (.int .i64))) fun x18 =>
  F58_J1 k l_1p l_1l l_1c ⟨n3, 0, none⟩ x4 (x18 != 0))
theorem F58_eq (k : Value → W) (l_1p : Option Addr) (l_1l : Nat) (l_1c : Nat) (at_2p : Option Addr) (at_2l : Nat) (at_2c : Nat) : compF Go.Proofs.Try.prog Go.Proofs.Try.f58 [] (Go.Proofs.Try.f58.body.getD .skip) [.slice l_1p l_1l l_1c, .slice at_2p at_2l at_2c] k = F58 k l_1p l_1l l_1c at_2p at_2l at_2c := by kernel_rfl
theorem F58_calls {l_1p : Option Addr} {l_1l : Nat} {l_1c : Nat} {at_2p : Option Addr} {at_2l : Nat} {at_2c : Nat} {w : World} {R : Ending → World → Prop} (h : F58 (fun v w => R (.returned v) w) l_1p l_1l l_1c at_2p at_2l at_2c w) : Calls Go.Proofs.Try.prog 58 #[.slice l_1p l_1l l_1c, .slice at_2p at_2l at_2c] w R :=
  calls_of_compF noNum follows [] (f := 58) (fn := Go.Proofs.Try.f58) (body := Go.Proofs.Try.f58.body.getD .skip) (args := [.slice l_1p l_1l l_1c, .slice at_2p at_2l at_2c]) rfl rfl (Nat.le_of_ble_eq_true rfl) ((congrFun (F58_eq _ l_1p l_1l l_1c at_2p at_2l at_2c) w).mpr h)
theorem F58_call {l_1p : Option Addr} {l_1l : Nat} {l_1c : Nat} {at_2p : Option Addr} {at_2l : Nat} {at_2c : Nat} {w : World} {g : Fn W (RTy.leaves (.tup [(.agg [.slice, (.int .i64)]), (.one .bool)]))} (h : F58 (fun v => Back (.tup [(.agg [.slice, (.int .i64)]), (.one .bool)]) g (.returned v)) l_1p l_1l l_1c at_2p at_2l at_2c w) : CallT Go.Proofs.Try.prog 58 [.slice l_1p l_1l l_1c, .slice at_2p at_2l at_2c] (.tup [(.agg [.slice, (.int .i64)]), (.one .bool)]) g w := F58_calls h

/-! ## spec.RTDrop -/
def F60 (k : Value → W) (l_1p : Option Addr) (l_1l : Nat) (l_1c : Nat) (at_2p : Option Addr) (at_2l : Nat) (at_2c : Nat) : W :=
 CallT Go.Proofs.Try.prog 58 [.slice l_1p l_1l l_1c, .slice at_2p at_2l at_2c] (.tup [(.agg [.slice, (.int .i64)]), (.one .bool)]) fun s3p s3l s3c x4 b5 =>
 New [.slice none 0 0, .int .i64 0] 85 fun n6 =>
 Store1 ⟨n6, 0, none⟩ (.slice s3p s3l s3c) <|
 Store1 ⟨n6, 1, none⟩ (.int .i64 x4) <|
 BIf (!b5) (
  k (.slice l_1p l_1l l_1c)) (
  CallT Go.Proofs.Try.prog 64 [.slice l_1p l_1l l_1c, .slice at_2p at_2l at_2c] (.s (.one (.int .i64))) fun x7 =>
  RawT Go.Proofs.Try.prog (Instr.buildSlice 50 0 [].toArray) (.s (.one .slice)) fun s8p s8l s8c =>
  Req (0 ≤ x7 ∧ x7 ≤ ((l_1c : Nat) : Int)) <|
  NextT Go.Proofs.Try.prog (builtin .append #[50, 50] 50 [false, false].toArray [.slice s8p s8l s8c, .slice (sliceA l_1p 0 l_1c 2) (x7.toNat - 0) (l_1c - 0)].toArray) (.s (.one .slice)) fun s9p s9l s9c =>
  Req (0 ≤ addI .i64 x7 1 ∧ addI .i64 x7 1 ≤ ((l_1l : Nat) : Int)) <|
  NextT Go.Proofs.Try.prog (builtin .append #[50, 50] 50 [false, false].toArray [.slice s9p s9l s9c, .slice (sliceA l_1p ((addI .i64 x7 1).toNat) l_1c 2) (l_1l - ((addI .i64 x7 1).toNat)) (l_1c - ((addI .i64 x7 1).toNat))].toArray) (.s (.one .slice)) fun s10p s10l s10c =>
  k (.slice s10p s10l s10c))
theorem F60_eq (k : Value → W) (l_1p : Option Addr) (l_1l : Nat) (l_1c : Nat) (at_2p : Option Addr) (at_2l : Nat) (at_2c : Nat) : compF Go.Proofs.Try.prog Go.Proofs.Try.f60 [] (Go.Proofs.Try.f60.body.getD .skip) [.slice l_1p l_1l l_1c, .slice at_2p at_2l at_2c] k = F60 k l_1p l_1l l_1c at_2p at_2l at_2c := by kernel_rfl
theorem F60_calls {l_1p : Option Addr} {l_1l : Nat} {l_1c : Nat} {at_2p : Option Addr} {at_2l : Nat} {at_2c : Nat} {w : World} {R : Ending → World → Prop} (h : F60 (fun v w => R (.returned v) w) l_1p l_1l l_1c at_2p at_2l at_2c w) : Calls Go.Proofs.Try.prog 60 #[.slice l_1p l_1l l_1c, .slice at_2p at_2l at_2c] w R :=
  calls_of_compF noNum follows [] (f := 60) (fn := Go.Proofs.Try.f60) (body := Go.Proofs.Try.f60.body.getD .skip) (args := [.slice l_1p l_1l l_1c, .slice at_2p at_2l at_2c]) rfl rfl (Nat.le_of_ble_eq_true rfl) ((congrFun (F60_eq _ l_1p l_1l l_1c at_2p at_2l at_2c) w).mpr h)
theorem F60_call {l_1p : Option Addr} {l_1l : Nat} {l_1c : Nat} {at_2p : Option Addr} {at_2l : Nat} {at_2c : Nat} {w : World} {g : Fn W (RTy.leaves (.s (.one .slice)))} (h : F60 (fun v => Back (.s (.one .slice)) g (.returned v)) l_1p l_1l l_1c at_2p at_2l at_2c w) : CallT Go.Proofs.Try.prog 60 [.slice l_1p l_1l l_1c, .slice at_2p at_2l at_2c] (.s (.one .slice)) g w := F60_calls h

/-! ## spec.RTPut -/
def F31 (k : Value → W) (l_1p : Option Addr) (l_1l : Nat) (l_1c : Nat) (s2p : Option Addr) (s2l : Nat) (s2c : Nat) (x3 : Int) : W :=
 New [.slice s2p s2l s2c, .int .i64 x3] 85 fun n4 =>
 LoadT .slice ⟨n4, 0, none⟩ fun s5p s5l s5c =>
 CallT Go.Proofs.Try.prog 60 [.slice l_1p l_1l l_1c, .slice s5p s5l s5c] (.s (.one .slice)) fun s6p s6l s6c =>
 LoadT .slice ⟨n4, 0, none⟩ fun s7p s7l s7c =>
 CallT Go.Proofs.Try.prog 64 [.slice s6p s6l s6c, .slice s7p s7l s7c] (.s (.one (.int .i64))) fun x8 =>
 RawT Go.Proofs.Try.prog (Instr.buildSlice 50 0 [].toArray) (.s (.one .slice)) fun s9p s9l s9c =>
 Req (0 ≤ x8 ∧ x8 ≤ ((s6c : Nat) : Int)) <|
 NextT Go.Proofs.Try.prog (builtin .append #[50, 50] 50 [false, false].toArray [.slice s9p s9l s9c, .slice (sliceA s6p 0 s6c 2) (x8.toNat - 0) (s6c - 0)].toArray) (.s (.one .slice)) fun s10p s10l s10c =>
 Drw <|
 LoadT .slice ⟨n4, 0, none⟩ fun s11p s11l s11c =>
 LoadT (.int .i64) ⟨n4, 1, none⟩ fun x12 =>
 Req (0 ≤ x8 ∧ x8 ≤ ((s6l : Nat) : Int)) <|
 RawT Go.Proofs.Try.prog (Instr.buildSlice 50 1 [(0, .agg #[.slice s11p s11l s11c, .int .i64 x12])].toArray) (.s (.one .slice)) fun s13p s13l s13c =>
 NextT Go.Proofs.Try.prog (builtin .append #[50, 50] 50 [false, false].toArray [.slice s10p s10l s10c, .slice s13p s13l s13c].toArray) (.s (.one .slice)) fun s14p s14l s14c =>
 Chk1 ⟨n4, 0, none⟩ (.slice s11p s11l s11c) <|
 Chk1 ⟨n4, 1, none⟩ (.int .i64 x12) <|
 NextT Go.Proofs.Try.prog (builtin .append #[50, 50] 50 [false, false].toArray [.slice s14p s14l s14c, .slice (sliceA s6p x8.toNat s6c 2) (s6l - x8.toNat) (s6c - x8.toNat)].toArray) (.s (.one .slice)) fun s15p s15l s15c =>
 Chk1 ⟨n4, 0, none⟩ (.slice s11p s11l s11c) <|
 Chk1 ⟨n4, 1, none⟩ (.int .i64 x12) <|
 k (.slice s15p s15l s15c)
theorem F31_eq (k : Value → W) (l_1p : Option Addr) (l_1l : Nat) (l_1c : Nat) (s2p : Option Addr) (s2l : Nat) (s2c : Nat) (x3 : Int) : compF Go.Proofs.Try.prog Go.Proofs.Try.f31 [] (Go.Proofs.Try.f31.body.getD .skip) [.slice l_1p l_1l l_1c, .agg #[.slice s2p s2l s2c, .int .i64 x3]] k = F31 k l_1p l_1l l_1c s2p s2l s2c x3 := by kernel_rfl
theorem F31_calls {l_1p : Option Addr} {l_1l : Nat} {l_1c : Nat} {s2p : Option Addr} {s2l : Nat} {s2c : Nat} {x3 : Int} {w : World} {R : Ending → World → Prop} (h : F31 (fun v w => R (.returned v) w) l_1p l_1l l_1c s2p s2l s2c x3 w) : Calls Go.Proofs.Try.prog 31 #[.slice l_1p l_1l l_1c, .agg #[.slice s2p s2l s2c, .int .i64 x3]] w R :=
  calls_of_compF noNum follows [] (f := 31) (fn := Go.Proofs.Try.f31) (body := Go.Proofs.Try.f31.body.getD .skip) (args := [.slice l_1p l_1l l_1c, .agg #[.slice s2p s2l s2c, .int .i64 x3]]) rfl rfl (Nat.le_of_ble_eq_true rfl) ((congrFun (F31_eq _ l_1p l_1l l_1c s2p s2l s2c x3) w).mpr h)
theorem F31_call {l_1p : Option Addr} {l_1l : Nat} {l_1c : Nat} {s2p : Option Addr} {s2l : Nat} {s2c : Nat} {x3 : Int} {w : World} {g : Fn W (RTy.leaves (.s (.one .slice)))} (h : F31 (fun v => Back (.s (.one .slice)) g (.returned v)) l_1p l_1l l_1c s2p s2l s2c x3 w) : CallT Go.Proofs.Try.prog 31 [.slice l_1p l_1l l_1c, .agg #[.slice s2p s2l s2c, .int .i64 x3]] (.s (.one .slice)) g w := F31_calls h

/-! ## spec.RTIn -/
def F61_L2 (k : Value → W) (again9 : Option Addr → Nat → Nat → Option Addr → Nat → Nat → Option Addr → Nat → Nat → Option Addr → Nat → Nat → Int → W) (again17 : Option Addr → Nat → Nat → Option Addr → Nat → Nat → Option Addr → Nat → Nat → Option Addr → Nat → Nat → Int → Bool → Int → W) (l_10p : Option Addr) (l_10l : Nat) (l_10c : Nat) (low_11p : Option Addr) (low_11l : Nat) (low_11c : Nat) (high_12p : Option Addr) (high_12l : Nat) (high_12c : Nat) (out_13p : Option Addr) (out_13l : Nat) (out_13c : Nat) (i_14 : Int) (in_15 : Bool) (k_16 : Int) : W :=
 BIf (decide (k_16 < ((low_11l : Nat) : Int))) (
  Drw <|
  BIf in_15 (
   NN low_11p fun a18 =>
   Req (0 ≤ k_16 ∧ k_16 < ((low_11l : Nat) : Int)) <|
   LoadT (.int .i64) (a18.add k_16.toNat) fun x19 =>
   NN l_10p fun a20 =>
   Req (0 ≤ i_14 ∧ i_14 < ((l_10l : Nat) : Int)) <|
   LoadT .slice (a20.add (i_14.toNat * 2)) fun s21p s21l s21c =>
   NN s21p fun a22 =>
   Req (0 ≤ k_16 ∧ k_16 < ((s21l : Nat) : Int)) <|
   LoadT (.int .i64) (a22.add k_16.toNat) fun x23 =>
   BIf (decide (x19 ≤ x23)) (
    NN l_10p fun a24 =>
    Req (0 ≤ i_14 ∧ i_14 < ((l_10l : Nat) : Int)) <|
    LoadT .slice (a24.add (i_14.toNat * 2)) fun s25p s25l s25c =>
    NN s25p fun a26 =>
    Req (0 ≤ k_16 ∧ k_16 < ((s25l : Nat) : Int)) <|
    LoadT (.int .i64) (a26.add k_16.toNat) fun x27 =>
    NN high_12p fun a28 =>
    Req (0 ≤ k_16 ∧ k_16 < ((high_12l : Nat) : Int)) <|
    LoadT (.int .i64) (a28.add k_16.toNat) fun x29 =>
    again17 l_10p l_10l l_10c low_11p low_11l low_11c high_12p high_12l high_12c out_13p out_13l out_13c i_14 (decide (x27 ≤ x29)) (addI .i64 k_16 1)) (
    again17 l_10p l_10l l_10c low_11p low_11l low_11c high_12p high_12l high_12c out_13p out_13l out_13c i_14 false (addI .i64 k_16 1))) (
   again17 l_10p l_10l l_10c low_11p low_11l low_11c high_12p high_12l high_12c out_13p out_13l out_13c i_14 false (addI .i64 k_16 1))) (
  BIf in_15 (
   NN l_10p fun a30 =>
   Req (0 ≤ i_14 ∧ i_14 < ((l_10l : Nat) : Int)) <|
   LoadT .slice ((a30.add (i_14.toNat * 2)).add 0) fun s31p s31l s31c =>
   LoadT (.int .i64) ((a30.add (i_14.toNat * 2)).add 1) fun x32 =>
   RawT Go.Proofs.Try.prog (Instr.buildSlice 50 1 [(0, .agg #[.slice s31p s31l s31c, .int .i64 x32])].toArray) (.s (.one .slice)) fun s33p s33l s33c =>
   NextT Go.Proofs.Try.prog (builtin .append #[50, 50] 50 [false, false].toArray [.slice out_13p out_13l out_13c, .slice s33p s33l s33c].toArray) (.s (.one .slice)) fun s34p s34l s34c =>
   again9 l_10p l_10l l_10c low_11p low_11l low_11c high_12p high_12l high_12c s34p s34l s34c (addI .i64 i_14 1)) (
   again9 l_10p l_10l l_10c low_11p low_11l low_11c high_12p high_12l high_12c out_13p out_13l out_13c (addI .i64 i_14 1)))
theorem F61_L2_rule {k : Value → W} {again9 : Option Addr → Nat → Nat → Option Addr → Nat → Nat → Option Addr → Nat → Nat → Option Addr → Nat → Nat → Int → W} (I : Option Addr → Nat → Nat → Option Addr → Nat → Nat → Option Addr → Nat → Nat → Option Addr → Nat → Nat → Int → Bool → Int → W) (μ : Option Addr → Nat → Nat → Option Addr → Nat → Nat → Option Addr → Nat → Nat → Option Addr → Nat → Nat → Int → Bool → Int → World → Nat)
  (hr : ∀ (l_10p : Option Addr) (l_10l : Nat) (l_10c : Nat) (low_11p : Option Addr) (low_11l : Nat) (low_11c : Nat) (high_12p : Option Addr) (high_12l : Nat) (high_12c : Nat) (out_13p : Option Addr) (out_13l : Nat) (out_13c : Nat) (i_14 : Int) (in_15 : Bool) (k_16 : Int) (w : World), I l_10p l_10l l_10c low_11p low_11l low_11c high_12p high_12l high_12c out_13p out_13l out_13c i_14 in_15 k_16 w → F61_L2 k again9 (fun l_10p' l_10l' l_10c' low_11p' low_11l' low_11c' high_12p' high_12l' high_12c' out_13p' out_13l' out_13c' i_14' in_15' k_16' w' => I l_10p' l_10l' l_10c' low_11p' low_11l' low_11c' high_12p' high_12l' high_12c' out_13p' out_13l' out_13c' i_14' in_15' k_16' w' ∧ μ l_10p' l_10l' l_10c' low_11p' low_11l' low_11c' high_12p' high_12l' high_12c' out_13p' out_13l' out_13c' i_14' in_15' k_16' w' < μ l_10p l_10l l_10c low_11p low_11l low_11c high_12p high_12l high_12c out_13p out_13l out_13c i_14 in_15 k_16 w) l_10p l_10l l_10c low_11p low_11l low_11c high_12p high_12l high_12c out_13p out_13l out_13c i_14 in_15 k_16 w)
  {w : World} {l_10p : Option Addr} {l_10l : Nat} {l_10c : Nat} {low_11p : Option Addr} {low_11l : Nat} {low_11c : Nat} {high_12p : Option Addr} {high_12l : Nat} {high_12c : Nat} {out_13p : Option Addr} {out_13l : Nat} {out_13c : Nat} {i_14 : Int} {in_15 : Bool} {k_16 : Int} (h : I l_10p l_10l l_10c low_11p low_11l low_11c high_12p high_12l high_12c out_13p out_13l out_13c i_14 in_15 k_16 w) : Loop [.slice, .slice, .slice, .slice, (.int .i64), .bool, (.int .i64)] (F61_L2 k again9) l_10p l_10l l_10c low_11p low_11l low_11c high_12p high_12l high_12c out_13p out_13l out_13c i_14 in_15 k_16 w :=
  Loop_intro (ts := [.slice, .slice, .slice, .slice, (.int .i64), .bool, (.int .i64)]) (s := ((l_10p, l_10l, l_10c), (low_11p, low_11l, low_11c), (high_12p, high_12l, high_12c), (out_13p, out_13l, out_13c), i_14, in_15, k_16, ())) (fun s w => I s.1.1 s.1.2.1 s.1.2.2 s.2.1.1 s.2.1.2.1 s.2.1.2.2 s.2.2.1.1 s.2.2.1.2.1 s.2.2.1.2.2 s.2.2.2.1.1 s.2.2.2.1.2.1 s.2.2.2.1.2.2 s.2.2.2.2.1 s.2.2.2.2.2.1 s.2.2.2.2.2.2.1 w) (fun s w => μ s.1.1 s.1.2.1 s.1.2.2 s.2.1.1 s.2.1.2.1 s.2.1.2.2 s.2.2.1.1 s.2.2.1.2.1 s.2.2.1.2.2 s.2.2.2.1.1 s.2.2.2.1.2.1 s.2.2.2.1.2.2 s.2.2.2.2.1 s.2.2.2.2.2.1 s.2.2.2.2.2.2.1 w) h (fun s w h => hr s.1.1 s.1.2.1 s.1.2.2 s.2.1.1 s.2.1.2.1 s.2.1.2.2 s.2.2.1.1 s.2.2.1.2.1 s.2.2.1.2.2 s.2.2.2.1.1 s.2.2.2.1.2.1 s.2.2.2.1.2.2 s.2.2.2.2.1 s.2.2.2.2.2.1 s.2.2.2.2.2.2.1 w h)
def F61_L1 (k : Value → W) (again9 : Option Addr → Nat → Nat → Option Addr → Nat → Nat → Option Addr → Nat → Nat → Option Addr → Nat → Nat → Int → W) (l_4p : Option Addr) (l_4l : Nat) (l_4c : Nat) (low_5p : Option Addr) (low_5l : Nat) (low_5c : Nat) (high_6p : Option Addr) (high_6l : Nat) (high_6c : Nat) (out_7p : Option Addr) (out_7l : Nat) (out_7c : Nat) (i_8 : Int) : W :=
 BIf (decide (i_8 < ((l_4l : Nat) : Int))) (
  Loop [.slice, .slice, .slice, .slice, (.int .i64), .bool, (.int .i64)] (F61_L2 k again9) l_4p l_4l l_4c low_5p low_5l low_5c high_6p high_6l high_6c out_7p out_7l out_7c i_8 true 0) (
  k (.slice out_7p out_7l out_7c))
theorem F61_L1_rule {k : Value → W} (I : Option Addr → Nat → Nat → Option Addr → Nat → Nat → Option Addr → Nat → Nat → Option Addr → Nat → Nat → Int → W) (μ : Option Addr → Nat → Nat → Option Addr → Nat → Nat → Option Addr → Nat → Nat → Option Addr → Nat → Nat → Int → World → Nat)
  (hr : ∀ (l_4p : Option Addr) (l_4l : Nat) (l_4c : Nat) (low_5p : Option Addr) (low_5l : Nat) (low_5c : Nat) (high_6p : Option Addr) (high_6l : Nat) (high_6c : Nat) (out_7p : Option Addr) (out_7l : Nat) (out_7c : Nat) (i_8 : Int) (w : World), I l_4p l_4l l_4c low_5p low_5l low_5c high_6p high_6l high_6c out_7p out_7l out_7c i_8 w → F61_L1 k (fun l_4p' l_4l' l_4c' low_5p' low_5l' low_5c' high_6p' high_6l' high_6c' out_7p' out_7l' out_7c' i_8' w' => I l_4p' l_4l' l_4c' low_5p' low_5l' low_5c' high_6p' high_6l' high_6c' out_7p' out_7l' out_7c' i_8' w' ∧ μ l_4p' l_4l' l_4c' low_5p' low_5l' low_5c' high_6p' high_6l' high_6c' out_7p' out_7l' out_7c' i_8' w' < μ l_4p l_4l l_4c low_5p low_5l low_5c high_6p high_6l high_6c out_7p out_7l out_7c i_8 w) l_4p l_4l l_4c low_5p low_5l low_5c high_6p high_6l high_6c out_7p out_7l out_7c i_8 w)
  {w : World} {l_4p : Option Addr} {l_4l : Nat} {l_4c : Nat} {low_5p : Option Addr} {low_5l : Nat} {low_5c : Nat} {high_6p : Option Addr} {high_6l : Nat} {high_6c : Nat} {out_7p : Option Addr} {out_7l : Nat} {out_7c : Nat} {i_8 : Int} (h : I l_4p l_4l l_4c low_5p low_5l low_5c high_6p high_6l high_6c out_7p out_7l out_7c i_8 w) : Loop [.slice, .slice, .slice, .slice, (.int .i64)] (F61_L1 k) l_4p l_4l l_4c low_5p low_5l low_5c high_6p high_6l high_6c out_7p out_7l out_7c i_8 w :=
  Loop_intro (ts := [.slice, .slice, .slice, .slice, (.int .i64)]) (s := ((l_4p, l_4l, l_4c), (low_5p, low_5l, low_5c), (high_6p, high_6l, high_6c), (out_7p, out_7l, out_7c), i_8, ())) (fun s w => I s.1.1 s.1.2.1 s.1.2.2 s.2.1.1 s.2.1.2.1 s.2.1.2.2 s.2.2.1.1 s.2.2.1.2.1 s.2.2.1.2.2 s.2.2.2.1.1 s.2.2.2.1.2.1 s.2.2.2.1.2.2 s.2.2.2.2.1 w) (fun s w => μ s.1.1 s.1.2.1 s.1.2.2 s.2.1.1 s.2.1.2.1 s.2.1.2.2 s.2.2.1.1 s.2.2.1.2.1 s.2.2.1.2.2 s.2.2.2.1.1 s.2.2.2.1.2.1 s.2.2.2.1.2.2 s.2.2.2.2.1 w) h (fun s w h => hr s.1.1 s.1.2.1 s.1.2.2 s.2.1.1 s.2.1.2.1 s.2.1.2.2 s.2.2.1.1 s.2.2.1.2.1 s.2.2.1.2.2 s.2.2.2.1.1 s.2.2.2.1.2.1 s.2.2.2.1.2.2 s.2.2.2.2.1 w h)
def F61 (k : Value → W) (l_1p : Option Addr) (l_1l : Nat) (l_1c : Nat) (low_2p : Option Addr) (low_2l : Nat) (low_2c : Nat) (high_3p : Option Addr) (high_3l : Nat) (high_3c : Nat) : W :=
 Loop [.slice, .slice, .slice, .slice, (.int .i64)] (F61_L1 k) l_1p l_1l l_1c low_2p low_2l low_2c high_3p high_3l high_3c none 0 0 0
theorem F61_eq (k : Value → W) (l_1p : Option Addr) (l_1l : Nat) (l_1c : Nat) (low_2p : Option Addr) (low_2l : Nat) (low_2c : Nat) (high_3p : Option Addr) (high_3l : Nat) (high_3c : Nat) : compF Go.Proofs.Try.prog Go.Proofs.Try.f61 [(3, [(0, .slice), (1, .slice), (2, .slice), (7, .slice), (8, (.int .i64))]), (7, [(0, .slice), (1, .slice), (2, .slice), (7, .slice), (8, (.int .i64)), (9, .bool), (10, (.int .i64))])] (Go.Proofs.Try.f61.body.getD .skip) [.slice l_1p l_1l l_1c, .slice low_2p low_2l low_2c, .slice high_3p high_3l high_3c] k = F61 k l_1p l_1l l_1c low_2p low_2l low_2c high_3p high_3l high_3c := by kernel_rfl
theorem F61_calls {l_1p : Option Addr} {l_1l : Nat} {l_1c : Nat} {low_2p : Option Addr} {low_2l : Nat} {low_2c : Nat} {high_3p : Option Addr} {high_3l : Nat} {high_3c : Nat} {w : World} {R : Ending → World → Prop} (h : F61 (fun v w => R (.returned v) w) l_1p l_1l l_1c low_2p low_2l low_2c high_3p high_3l high_3c w) : Calls Go.Proofs.Try.prog 61 #[.slice l_1p l_1l l_1c, .slice low_2p low_2l low_2c, .slice high_3p high_3l high_3c] w R :=
  calls_of_compF noNum follows [(3, [(0, .slice), (1, .slice), (2, .slice), (7, .slice), (8, (.int .i64))]), (7, [(0, .slice), (1, .slice), (2, .slice), (7, .slice), (8, (.int .i64)), (9, .bool), (10, (.int .i64))])] (f := 61) (fn := Go.Proofs.Try.f61) (body := Go.Proofs.Try.f61.body.getD .skip) (args := [.slice l_1p l_1l l_1c, .slice low_2p low_2l low_2c, .slice high_3p high_3l high_3c]) rfl rfl (Nat.le_of_ble_eq_true rfl) ((congrFun (F61_eq _ l_1p l_1l l_1c low_2p low_2l low_2c high_3p high_3l high_3c) w).mpr h)
theorem F61_call {l_1p : Option Addr} {l_1l : Nat} {l_1c : Nat} {low_2p : Option Addr} {low_2l : Nat} {low_2c : Nat} {high_3p : Option Addr} {high_3l : Nat} {high_3c : Nat} {w : World} {g : Fn W (RTy.leaves (.s (.one .slice)))} (h : F61 (fun v => Back (.s (.one .slice)) g (.returned v)) l_1p l_1l l_1c low_2p low_2l low_2c high_3p high_3l high_3c w) : CallT Go.Proofs.Try.prog 61 [.slice l_1p l_1l l_1c, .slice low_2p low_2l low_2c, .slice high_3p high_3l high_3c] (.s (.one .slice)) g w := F61_calls h

/-! ## spec.RTVals -/
def F62_L1 (k : Value → W) (again5 : Option Addr → Nat → Nat → Option Addr → Nat → Nat → Int → W) (l_2p : Option Addr) (l_2l : Nat) (l_2c : Nat) (out_3p : Option Addr) (out_3l : Nat) (out_3c : Nat) (i_4 : Int) : W :=
 BIf (decide (i_4 < ((l_2l : Nat) : Int))) (
  NN l_2p fun a6 =>
  Req (0 ≤ i_4 ∧ i_4 < ((l_2l : Nat) : Int)) <|
  LoadT (.int .i64) ((a6.add (i_4.toNat * 2)).add 1) fun x7 =>
  RawT Go.Proofs.Try.prog (Instr.buildSlice 24 1 [(0, .int .i64 x7)].toArray) (.s (.one .slice)) fun s8p s8l s8c =>
  NextT Go.Proofs.Try.prog (builtin .append #[24, 24] 24 [false, false].toArray [.slice out_3p out_3l out_3c, .slice s8p s8l s8c].toArray) (.s (.one .slice)) fun s9p s9l s9c =>
  again5 l_2p l_2l l_2c s9p s9l s9c (addI .i64 i_4 1)) (
  k (.slice out_3p out_3l out_3c))
theorem F62_L1_rule {k : Value → W} (I : Option Addr → Nat → Nat → Option Addr → Nat → Nat → Int → W) (μ : Option Addr → Nat → Nat → Option Addr → Nat → Nat → Int → World → Nat)
  (hr : ∀ (l_2p : Option Addr) (l_2l : Nat) (l_2c : Nat) (out_3p : Option Addr) (out_3l : Nat) (out_3c : Nat) (i_4 : Int) (w : World), I l_2p l_2l l_2c out_3p out_3l out_3c i_4 w → F62_L1 k (fun l_2p' l_2l' l_2c' out_3p' out_3l' out_3c' i_4' w' => I l_2p' l_2l' l_2c' out_3p' out_3l' out_3c' i_4' w' ∧ μ l_2p' l_2l' l_2c' out_3p' out_3l' out_3c' i_4' w' < μ l_2p l_2l l_2c out_3p out_3l out_3c i_4 w) l_2p l_2l l_2c out_3p out_3l out_3c i_4 w)
  {w : World} {l_2p : Option Addr} {l_2l : Nat} {l_2c : Nat} {out_3p : Option Addr} {out_3l : Nat} {out_3c : Nat} {i_4 : Int} (h : I l_2p l_2l l_2c out_3p out_3l out_3c i_4 w) : Loop [.slice, .slice, (.int .i64)] (F62_L1 k) l_2p l_2l l_2c out_3p out_3l out_3c i_4 w :=
  Loop_intro (ts := [.slice, .slice, (.int .i64)]) (s := ((l_2p, l_2l, l_2c), (out_3p, out_3l, out_3c), i_4, ())) (fun s w => I s.1.1 s.1.2.1 s.1.2.2 s.2.1.1 s.2.1.2.1 s.2.1.2.2 s.2.2.1 w) (fun s w => μ s.1.1 s.1.2.1 s.1.2.2 s.2.1.1 s.2.1.2.1 s.2.1.2.2 s.2.2.1 w) h (fun s w h => hr s.1.1 s.1.2.1 s.1.2.2 s.2.1.1 s.2.1.2.1 s.2.1.2.2 s.2.2.1 w h)
def F62 (k : Value → W) (l_1p : Option Addr) (l_1l : Nat) (l_1c : Nat) : W :=
 Loop [.slice, .slice, (.int .i64)] (F62_L1 k) l_1p l_1l l_1c none 0 0 0
theorem F62_eq (k : Value → W) (l_1p : Option Addr) (l_1l : Nat) (l_1c : Nat) : compF Go.Proofs.Try.prog Go.Proofs.Try.f62 [(3, [(0, .slice), (3, .slice), (4, (.int .i64))])] (Go.Proofs.Try.f62.body.getD .skip) [.slice l_1p l_1l l_1c] k = F62 k l_1p l_1l l_1c := by kernel_rfl
theorem F62_calls {l_1p : Option Addr} {l_1l : Nat} {l_1c : Nat} {w : World} {R : Ending → World → Prop} (h : F62 (fun v w => R (.returned v) w) l_1p l_1l l_1c w) : Calls Go.Proofs.Try.prog 62 #[.slice l_1p l_1l l_1c] w R :=
  calls_of_compF noNum follows [(3, [(0, .slice), (3, .slice), (4, (.int .i64))])] (f := 62) (fn := Go.Proofs.Try.f62) (body := Go.Proofs.Try.f62.body.getD .skip) (args := [.slice l_1p l_1l l_1c]) rfl rfl (Nat.le_of_ble_eq_true rfl) ((congrFun (F62_eq _ l_1p l_1l l_1c) w).mpr h)
theorem F62_call {l_1p : Option Addr} {l_1l : Nat} {l_1c : Nat} {w : World} {g : Fn W (RTy.leaves (.s (.one .slice)))} (h : F62 (fun v => Back (.s (.one .slice)) g (.returned v)) l_1p l_1l l_1c w) : CallT Go.Proofs.Try.prog 62 [.slice l_1p l_1l l_1c] (.s (.one .slice)) g w := F62_calls h

/-! ## laws.rtLess -/
def F63_L1 (k : Value → W) (again7 : Option Addr → Nat → Nat → Int → Option Addr → Nat → Nat → Int → W) (at_3p : Option Addr) (at_3l : Nat) (at_3c : Nat) (by_4 : Int) (out_5p : Option Addr) (out_5l : Nat) (out_5c : Nat) (i_6 : Int) : W :=
 BIf (decide (i_6 < ((at_3l : Nat) : Int))) (
  NN at_3p fun a8 =>
  Req (0 ≤ i_6 ∧ i_6 < ((at_3l : Nat) : Int)) <|
  LoadT (.int .i64) (a8.add i_6.toNat) fun x9 =>
  RawT Go.Proofs.Try.prog (Instr.buildSlice 47 1 [(0, .int .i64 (subI .i64 x9 by_4))].toArray) (.s (.one .slice)) fun s10p s10l s10c =>
  NextT Go.Proofs.Try.prog (builtin .append #[47, 47] 47 [false, false].toArray [.slice out_5p out_5l out_5c, .slice s10p s10l s10c].toArray) (.s (.one .slice)) fun s11p s11l s11c =>
  again7 at_3p at_3l at_3c by_4 s11p s11l s11c (addI .i64 i_6 1)) (
  k (.slice out_5p out_5l out_5c))
theorem F63_L1_rule {k : Value → W} (I : Option Addr → Nat → Nat → Int → Option Addr → Nat → Nat → Int → W) (μ : Option Addr → Nat → Nat → Int → Option Addr → Nat → Nat → Int → World → Nat)
  (hr : ∀ (at_3p : Option Addr) (at_3l : Nat) (at_3c : Nat) (by_4 : Int) (out_5p : Option Addr) (out_5l : Nat) (out_5c : Nat) (i_6 : Int) (w : World), I at_3p at_3l at_3c by_4 out_5p out_5l out_5c i_6 w → F63_L1 k (fun at_3p' at_3l' at_3c' by_4' out_5p' out_5l' out_5c' i_6' w' => I at_3p' at_3l' at_3c' by_4' out_5p' out_5l' out_5c' i_6' w' ∧ μ at_3p' at_3l' at_3c' by_4' out_5p' out_5l' out_5c' i_6' w' < μ at_3p at_3l at_3c by_4 out_5p out_5l out_5c i_6 w) at_3p at_3l at_3c by_4 out_5p out_5l out_5c i_6 w)
  {w : World} {at_3p : Option Addr} {at_3l : Nat} {at_3c : Nat} {by_4 : Int} {out_5p : Option Addr} {out_5l : Nat} {out_5c : Nat} {i_6 : Int} (h : I at_3p at_3l at_3c by_4 out_5p out_5l out_5c i_6 w) : Loop [.slice, (.int .i64), .slice, (.int .i64)] (F63_L1 k) at_3p at_3l at_3c by_4 out_5p out_5l out_5c i_6 w :=
  Loop_intro (ts := [.slice, (.int .i64), .slice, (.int .i64)]) (s := ((at_3p, at_3l, at_3c), by_4, (out_5p, out_5l, out_5c), i_6, ())) (fun s w => I s.1.1 s.1.2.1 s.1.2.2 s.2.1 s.2.2.1.1 s.2.2.1.2.1 s.2.2.1.2.2 s.2.2.2.1 w) (fun s w => μ s.1.1 s.1.2.1 s.1.2.2 s.2.1 s.2.2.1.1 s.2.2.1.2.1 s.2.2.1.2.2 s.2.2.2.1 w) h (fun s w h => hr s.1.1 s.1.2.1 s.1.2.2 s.2.1 s.2.2.1.1 s.2.2.1.2.1 s.2.2.1.2.2 s.2.2.2.1 w h)
def F63 (k : Value → W) (at_1p : Option Addr) (at_1l : Nat) (at_1c : Nat) (by_2 : Int) : W :=
 Loop [.slice, (.int .i64), .slice, (.int .i64)] (F63_L1 k) at_1p at_1l at_1c by_2 none 0 0 0
theorem F63_eq (k : Value → W) (at_1p : Option Addr) (at_1l : Nat) (at_1c : Nat) (by_2 : Int) : compF Go.Proofs.Try.prog Go.Proofs.Try.f63 [(3, [(0, .slice), (1, (.int .i64)), (5, .slice), (6, (.int .i64))])] (Go.Proofs.Try.f63.body.getD .skip) [.slice at_1p at_1l at_1c, .int .i64 by_2] k = F63 k at_1p at_1l at_1c by_2 := by kernel_rfl
theorem F63_calls {at_1p : Option Addr} {at_1l : Nat} {at_1c : Nat} {by_2 : Int} {w : World} {R : Ending → World → Prop} (h : F63 (fun v w => R (.returned v) w) at_1p at_1l at_1c by_2 w) : Calls Go.Proofs.Try.prog 63 #[.slice at_1p at_1l at_1c, .int .i64 by_2] w R :=
  calls_of_compF noNum follows [(3, [(0, .slice), (1, (.int .i64)), (5, .slice), (6, (.int .i64))])] (f := 63) (fn := Go.Proofs.Try.f63) (body := Go.Proofs.Try.f63.body.getD .skip) (args := [.slice at_1p at_1l at_1c, .int .i64 by_2]) rfl rfl (Nat.le_of_ble_eq_true rfl) ((congrFun (F63_eq _ at_1p at_1l at_1c by_2) w).mpr h)
theorem F63_call {at_1p : Option Addr} {at_1l : Nat} {at_1c : Nat} {by_2 : Int} {w : World} {g : Fn W (RTy.leaves (.s (.one .slice)))} (h : F63 (fun v => Back (.s (.one .slice)) g (.returned v)) at_1p at_1l at_1c by_2 w) : CallT Go.Proofs.Try.prog 63 [.slice at_1p at_1l at_1c, .int .i64 by_2] (.s (.one .slice)) g w := F63_calls h

/-! ## laws.srAsked -/
def F28 (k : Value → W) (x1 : Int) (x2 : Int) (s3p : Option Addr) (s3l : Nat) (s3c : Nat) (s4p : Option Addr) (s4l : Nat) (s4c : Nat) (s5p : Option Addr) (s5l : Nat) (s5c : Nat) (x6 : Int) (x7 : Int) (x8 : Int) (x9 : Int) : W :=
 New [.int .i64 x1, .int .i64 x2, .slice s3p s3l s3c, .slice s4p s4l s4c, .slice s5p s5l s5c, .int .u64 x6, .int .i64 x7, .int .i64 x8, .int .i64 x9] 49 fun n10 =>
 New [.int .i64 0, .int .i64 0, .slice none 0 0, .slice none 0 0, .slice none 0 0, .int .u64 0, .int .i64 0, .int .i64 0, .int .i64 0] 49 fun n11 =>
 LoadT .slice ⟨n10, 4, none⟩ fun s12p s12l s12c =>
 CallT Go.Proofs.Try.prog 63 [.slice s12p s12l s12c, .int .i64 1] (.s (.one .slice)) fun s13p s13l s13c =>
 Store1 ⟨n10, 4, none⟩ (.slice s13p s13l s13c) <|
 LoadT (.int .i64) ⟨n10, 0, none⟩ fun x14 =>
 LoadT (.int .i64) ⟨n10, 1, none⟩ fun x15 =>
 LoadT .slice ⟨n10, 2, none⟩ fun s16p s16l s16c =>
 LoadT .slice ⟨n10, 3, none⟩ fun s17p s17l s17c =>
 LoadT .slice ⟨n10, 4, none⟩ fun s18p s18l s18c =>
 LoadT (.int .u64) ⟨n10, 5, none⟩ fun x19 =>
 LoadT (.int .i64) ⟨n10, 6, none⟩ fun x20 =>
 LoadT (.int .i64) ⟨n10, 7, none⟩ fun x21 =>
 LoadT (.int .i64) ⟨n10, 8, none⟩ fun x22 =>
 Store1 ⟨n11, 0, none⟩ (.int .i64 x14) <|
 Store1 ⟨n11, 1, none⟩ (.int .i64 x15) <|
 Store1 ⟨n11, 2, none⟩ (.slice s16p s16l s16c) <|
 Store1 ⟨n11, 3, none⟩ (.slice s17p s17l s17c) <|
 Store1 ⟨n11, 4, none⟩ (.slice s18p s18l s18c) <|
 Store1 ⟨n11, 5, none⟩ (.int .u64 x19) <|
 Store1 ⟨n11, 6, none⟩ (.int .i64 x20) <|
 Store1 ⟨n11, 7, none⟩ (.int .i64 x21) <|
 Store1 ⟨n11, 8, none⟩ (.int .i64 x22) <|
 LoadT (.int .i64) ⟨n11, 0, none⟩ fun x23 =>
 LoadT (.int .i64) ⟨n11, 1, none⟩ fun x24 =>
 LoadT .slice ⟨n11, 2, none⟩ fun s25p s25l s25c =>
 LoadT .slice ⟨n11, 3, none⟩ fun s26p s26l s26c =>
 LoadT .slice ⟨n11, 4, none⟩ fun s27p s27l s27c =>
 LoadT (.int .u64) ⟨n11, 5, none⟩ fun x28 =>
 LoadT (.int .i64) ⟨n11, 6, none⟩ fun x29 =>
 LoadT (.int .i64) ⟨n11, 7, none⟩ fun x30 =>
 LoadT (.int .i64) ⟨n11, 8, none⟩ fun x31 =>
 k (.agg #[.int .i64 x23, .int .i64 x24, .slice s25p s25l s25c, .slice s26p s26l s26c, .slice s27p s27l s27c, .int .u64 x28, .int .i64 x29, .int .i64 x30, .int .i64 x31])
theorem F28_eq (k : Value → W) (x1 : Int) (x2 : Int) (s3p : Option Addr) (s3l : Nat) (s3c : Nat) (s4p : Option Addr) (s4l : Nat) (s4c : Nat) (s5p : Option Addr) (s5l : Nat) (s5c : Nat) (x6 : Int) (x7 : Int) (x8 : Int) (x9 : Int) : compF Go.Proofs.Try.prog Go.Proofs.Try.f28 [] (Go.Proofs.Try.f28.body.getD .skip) [.agg #[.int .i64 x1, .int .i64 x2, .slice s3p s3l s3c, .slice s4p s4l s4c, .slice s5p s5l s5c, .int .u64 x6, .int .i64 x7, .int .i64 x8, .int .i64 x9]] k = F28 k x1 x2 s3p s3l s3c s4p s4l s4c s5p s5l s5c x6 x7 x8 x9 := by kernel_rfl
theorem F28_calls {x1 : Int} {x2 : Int} {s3p : Option Addr} {s3l : Nat} {s3c : Nat} {s4p : Option Addr} {s4l : Nat} {s4c : Nat} {s5p : Option Addr} {s5l : Nat} {s5c : Nat} {x6 : Int} {x7 : Int} {x8 : Int} {x9 : Int} {w : World} {R : Ending → World → Prop} (h : F28 (fun v w => R (.returned v) w) x1 x2 s3p s3l s3c s4p s4l s4c s5p s5l s5c x6 x7 x8 x9 w) : Calls Go.Proofs.Try.prog 28 #[.agg #[.int .i64 x1, .int .i64 x2, .slice s3p s3l s3c, .slice s4p s4l s4c, .slice s5p s5l s5c, .int .u64 x6, .int .i64 x7, .int .i64 x8, .int .i64 x9]] w R :=
  calls_of_compF noNum follows [] (f := 28) (fn := Go.Proofs.Try.f28) (body := Go.Proofs.Try.f28.body.getD .skip) (args := [.agg #[.int .i64 x1, .int .i64 x2, .slice s3p s3l s3c, .slice s4p s4l s4c, .slice s5p s5l s5c, .int .u64 x6, .int .i64 x7, .int .i64 x8, .int .i64 x9]]) rfl rfl (Nat.le_of_ble_eq_true rfl) ((congrFun (F28_eq _ x1 x2 s3p s3l s3c s4p s4l s4c s5p s5l s5c x6 x7 x8 x9) w).mpr h)
theorem F28_call {x1 : Int} {x2 : Int} {s3p : Option Addr} {s3l : Nat} {s3c : Nat} {s4p : Option Addr} {s4l : Nat} {s4c : Nat} {s5p : Option Addr} {s5l : Nat} {s5c : Nat} {x6 : Int} {x7 : Int} {x8 : Int} {x9 : Int} {w : World} {g : Fn W (RTy.leaves (.s (.agg [(.int .i64), (.int .i64), .slice, .slice, .slice, (.int .u64), (.int .i64), (.int .i64), (.int .i64)])))} (h : F28 (fun v => Back (.s (.agg [(.int .i64), (.int .i64), .slice, .slice, .slice, (.int .u64), (.int .i64), (.int .i64), (.int .i64)])) g (.returned v)) x1 x2 s3p s3l s3c s4p s4l s4c s5p s5l s5c x6 x7 x8 x9 w) : CallT Go.Proofs.Try.prog 28 [.agg #[.int .i64 x1, .int .i64 x2, .slice s3p s3l s3c, .slice s4p s4l s4c, .slice s5p s5l s5c, .int .u64 x6, .int .i64 x7, .int .i64 x8, .int .i64 x9]] (.s (.agg [(.int .i64), (.int .i64), .slice, .slice, .slice, (.int .u64), (.int .i64), (.int .i64), (.int .i64)])) g w := F28_calls h

/-! ## laws.rtSays -/
def F27_J4 (k : Value → W) (again33 : Option Addr → Nat → Nat → Addr → Addr → Int → W) (now_58p : Option Addr) (now_58l : Nat) (now_58c : Nat) (s_59 : Addr) (got_60 : Addr) (i_61 : Int) : W :=
 LoadT (.int .i64) s_59 fun x62 =>
 BIf (x62 == 2) (
  LoadT .slice (s_59.add 2) fun s63p s63l s63c =>
  NN s63p fun a64 =>
  Req (0 ≤ i_61 ∧ i_61 < ((s63l : Nat) : Int)) <|
  LoadT .slice (a64.add (i_61.toNat * 2)) fun s65p s65l s65c =>
  CallT Go.Proofs.Try.prog 60 [.slice now_58p now_58l now_58c, .slice s65p s65l s65c] (.s (.one .slice)) fun s66p s66l s66c =>
  again33 s66p s66l s66c s_59 got_60 (addI .i64 i_61 1)) (
  again33 now_58p now_58l now_58c s_59 got_60 (addI .i64 i_61 1))
def F27_J3 (k : Value → W) (again33 : Option Addr → Nat → Nat → Addr → Addr → Int → W) (now_45p : Option Addr) (now_45l : Nat) (now_45c : Nat) (s_46 : Addr) (got_47 : Addr) (i_48 : Int) (b49 : Bool) : W :=
 BIf b49 (
  k (.tuple #[.slice none 0 0, .bool false])) (
  LoadT (.int .i64) s_46 fun x50 =>
  BIf (x50 == 1) (
   Drw <|
   LoadT .slice (s_46.add 2) fun s51p s51l s51c =>
   NN s51p fun a52 =>
   Req (0 ≤ i_48 ∧ i_48 < ((s51l : Nat) : Int)) <|
   LoadT .slice (a52.add (i_48.toNat * 2)) fun s53p s53l s53c =>
   LoadT .slice (s_46.add 2) fun s54p s54l s54c =>
   NN s54p fun a55 =>
   Req (0 ≤ i_48 ∧ i_48 < ((s54l : Nat) : Int)) <|
   LoadT (.int .i64) ((a55.add (i_48.toNat * 2)).add 1) fun x56 =>
   CallT Go.Proofs.Try.prog 31 [.slice now_45p now_45l now_45c, .agg #[.slice s53p s53l s53c, .int .i64 x56]] (.s (.one .slice)) fun s57p s57l s57c =>
   Chk1 ((a55.add (i_48.toNat * 2)).add 1) (.int .i64 x56) <|
   Chk1 (s_46.add 2) (.slice s54p s54l s54c) <|
   Chk1 (a52.add (i_48.toNat * 2)) (.slice s53p s53l s53c) <|
   Chk1 (s_46.add 2) (.slice s51p s51l s51c) <|
   F27_J4 k again33 s57p s57l s57c s_46 got_47 i_48) (
   F27_J4 k again33 now_45p now_45l now_45c s_46 got_47 i_48))
def F27_L1 (k : Value → W) (again33 : Option Addr → Nat → Nat → Addr → Addr → Int → W) (now_29p : Option Addr) (now_29l : Nat) (now_29c : Nat) (s_30 : Addr) (got_31 : Addr) (i_32 : Int) : W :=
 LoadT .slice (s_30.add 2) fun s34p s34l s34c =>
 BIf (decide (i_32 < ((s34l : Nat) : Int))) (
  LoadT .slice (s_30.add 2) fun s35p s35l s35c =>
  NN s35p fun a36 =>
  Req (0 ≤ i_32 ∧ i_32 < ((s35l : Nat) : Int)) <|
  LoadT .slice (a36.add (i_32.toNat * 2)) fun s37p s37l s37c =>
  CallT Go.Proofs.Try.prog 58 [.slice now_29p now_29l now_29c, .slice s37p s37l s37c] (.tup [(.agg [.slice, (.int .i64)]), (.one .bool)]) fun s38p s38l s38c x39 b40 =>
  New [.slice none 0 0, .int .i64 0] 85 fun n41 =>
  Store1 ⟨n41, 0, none⟩ (.slice s38p s38l s38c) <|
  Store1 ⟨n41, 1, none⟩ (.int .i64 x39) <|
  Drw <|
  LoadT .slice (got_31.add 1) fun s42p s42l s42c =>
  NN s42p fun a43 =>
  Req (0 ≤ i_32 ∧ i_32 < ((s42l : Nat) : Int)) <|
  LoadT .bool (a43.add i_32.toNat) fun b44 =>
  BIf (!(b44 == b40)) (
   F27_J3 k again33 now_29p now_29l now_29c s_30 got_31 i_32 true) (
   BIf b40 (
    LoadT .slice got_31 fun s67p s67l s67c =>
    NN s67p fun a68 =>
    Req (0 ≤ i_32 ∧ i_32 < ((s67l : Nat) : Int)) <|
    LoadT (.int .i64) ((a68.add (i_32.toNat * 2)).add 1) fun x69 =>
    LoadT (.int .i64) ⟨n41, 1, none⟩ fun x70 =>
    BIf (x69 != x70) (
     F27_J3 k again33 now_29p now_29l now_29c s_30 got_31 i_32 true) (
     LoadT .slice got_31 fun s71p s71l s71c =>
     NN s71p fun a72 =>
     Req (0 ≤ i_32 ∧ i_32 < ((s71l : Nat) : Int)) <|
     LoadT .slice (a72.add (i_32.toNat * 2)) fun s73p s73l s73c =>
     LoadT .slice ⟨n41, 0, none⟩ fun s74p s74l s74c =>
     BIf (((s73l : Nat) : Int) != ((s74l : Nat) : Int)) (
      F27_J3 k again33 now_29p now_29l now_29c s_30 got_31 i_32 true) (
      LoadT .slice got_31 fun s75p s75l s75c =>
      NN s75p fun a76 =>
      Req (0 ≤ i_32 ∧ i_32 < ((s75l : Nat) : Int)) <|
      LoadT .slice (a76.add (i_32.toNat * 2)) fun s77p s77l s77c =>
      LoadT .slice ⟨n41, 0, none⟩ fun s78p s78l s78c =>
      CallT Go.Proofs.Try.prog 59 [.slice s77p s77l s77c, .slice s78p s78l s78c] (.s (.one (.int .i64))) fun x79 =>
      Chk1 got_31 (.slice s75p s75l s75c) <|
      Chk1 ⟨n41, 0, none⟩ (.slice s74p s74l s74c) <|
      Chk1 (a72.add (i_32.toNat * 2)) (.slice s73p s73l s73c) <|
      Chk1 got_31 (.slice s71p s71l s71c) <|
      Chk1 ⟨n41, 1, none⟩ (.int .i64 x70) <|
      Chk1 ((a68.add (i_32.toNat * 2)).add 1) (.int .i64 x69) <|
      Chk1 got_31 (.slice s67p s67l s67c) <|
      Chk1 (a43.add i_32.toNat) (.bool b44) <|
      Chk1 (got_31.add 1) (.slice s42p s42l s42c) <|
      F27_J3 k again33 now_29p now_29l now_29c s_30 got_31 i_32 (x79 != 0)))) (
    F27_J3 k again33 now_29p now_29l now_29c s_30 got_31 i_32 false))) (
  k (.tuple #[.slice now_29p now_29l now_29c, .bool true]))
theorem F27_L1_rule {k : Value → W} (I : Option Addr → Nat → Nat → Addr → Addr → Int → W) (μ : Option Addr → Nat → Nat → Addr → Addr → Int → World → Nat)
  (hr : ∀ (now_29p : Option Addr) (now_29l : Nat) (now_29c : Nat) (s_30 : Addr) (got_31 : Addr) (i_32 : Int) (w : World), I now_29p now_29l now_29c s_30 got_31 i_32 w → F27_L1 k (fun now_29p' now_29l' now_29c' s_30' got_31' i_32' w' => I now_29p' now_29l' now_29c' s_30' got_31' i_32' w' ∧ μ now_29p' now_29l' now_29c' s_30' got_31' i_32' w' < μ now_29p now_29l now_29c s_30 got_31 i_32 w) now_29p now_29l now_29c s_30 got_31 i_32 w)
  {w : World} {now_29p : Option Addr} {now_29l : Nat} {now_29c : Nat} {s_30 : Addr} {got_31 : Addr} {i_32 : Int} (h : I now_29p now_29l now_29c s_30 got_31 i_32 w) : Loop [.slice, .addr, .addr, (.int .i64)] (F27_L1 k) now_29p now_29l now_29c s_30 got_31 i_32 w :=
  Loop_intro (ts := [.slice, .addr, .addr, (.int .i64)]) (s := ((now_29p, now_29l, now_29c), s_30, got_31, i_32, ())) (fun s w => I s.1.1 s.1.2.1 s.1.2.2 s.2.1 s.2.2.1 s.2.2.2.1 w) (fun s w => μ s.1.1 s.1.2.1 s.1.2.2 s.2.1 s.2.2.1 s.2.2.2.1 w) h (fun s w h => hr s.1.1 s.1.2.1 s.1.2.2 s.2.1 s.2.2.1 s.2.2.2.1 w h)
def F27_J2 (k : Value → W) (now_25p : Option Addr) (now_25l : Nat) (now_25c : Nat) (s_26 : Addr) (got_27 : Addr) (b28 : Bool) : W :=
 BIf b28 (
  k (.tuple #[.slice none 0 0, .bool false])) (
  Loop [.slice, .addr, .addr, (.int .i64)] (F27_L1 k) now_25p now_25l now_25c s_26 got_27 0)
def F27_J6 (k : Value → W) (now_93p : Option Addr) (now_93l : Nat) (now_93c : Nat) (got_94 : Addr) (want_95p : Option Addr) (want_95l : Nat) (want_95c : Nat) : W :=
 LoadT .slice got_94 fun s96p s96l s96c =>
 CallT Go.Proofs.Try.prog 15 [.slice s96p s96l s96c] (.s (.one .slice)) fun s97p s97l s97c =>
 CallT Go.Proofs.Try.prog 62 [.slice want_95p want_95l want_95c] (.s (.one .slice)) fun s98p s98l s98c =>
 CallT Go.Proofs.Try.prog 16 [.slice s97p s97l s97c, .slice s98p s98l s98c] (.s (.one .bool)) fun b99 =>
 k (.tuple #[.slice now_93p now_93l now_93c, .bool b99])
def F27_J5 (k : Value → W) (now_82p : Option Addr) (now_82l : Nat) (now_82c : Nat) (s_83 : Addr) (got_84 : Addr) (x85 : Int) (b86 : Bool) : W :=
 BIf b86 (
  LoadT .slice (s_83.add 3) fun s87p s87l s87c =>
  LoadT .slice (s_83.add 4) fun s88p s88l s88c =>
  CallT Go.Proofs.Try.prog 61 [.slice now_82p now_82l now_82c, .slice s87p s87l s87c, .slice s88p s88l s88c] (.s (.one .slice)) fun s89p s89l s89c =>
  LoadT (.int .i64) s_83 fun x90 =>
  BIf (x90 == 5) (
   LoadT (.int .i64) (s_83.add 8) fun x91 =>
   NextT Go.Proofs.Try.prog (builtin .min #[3, 3] 3 [false, false].toArray [.int .i64 ((s89l : Nat) : Int), .int .i64 (addI .i64 x91 1)].toArray) (.s (.one (.int .i64))) fun x92 =>
   Req (0 ≤ x92 ∧ x92 ≤ ((s89c : Nat) : Int)) <|
   F27_J6 k now_82p now_82l now_82c got_84 (sliceA s89p 0 s89c 2) (x92.toNat - 0) (s89c - 0)) (
   F27_J6 k now_82p now_82l now_82c got_84 s89p s89l s89c)) (
  BIf (x85 == 6) (
   Drw <|
   LoadT (.int .u64) (got_84.add 3) fun x100 =>
   Bind (x100 == (IntKind.wrap .u64 ((now_82l : Nat) : Int))) fun y101 =>
   k (.tuple #[.slice now_82p now_82l now_82c, .bool y101])) (
   k (.tuple #[.slice now_82p now_82l now_82c, .bool true])))
def F27_J1 (k : Value → W) (now_18p : Option Addr) (now_18l : Nat) (now_18c : Nat) (s_19 : Addr) (got_20 : Addr) (x21 : Int) (b22 : Bool) : W :=
 BIf b22 (
  LoadT .slice got_20 fun s23p s23l s23c =>
  LoadT .slice (s_19.add 2) fun s24p s24l s24c =>
  BIf (((s23l : Nat) : Int) != ((s24l : Nat) : Int)) (
   F27_J2 k now_18p now_18l now_18c s_19 got_20 true) (
   LoadT .slice (got_20.add 1) fun s80p s80l s80c =>
   LoadT .slice (s_19.add 2) fun s81p s81l s81c =>
   F27_J2 k now_18p now_18l now_18c s_19 got_20 (((s80l : Nat) : Int) != ((s81l : Nat) : Int)))) (
  BIf (x21 == 4) (
   F27_J5 k now_18p now_18l now_18c s_19 got_20 x21 (x21 == 4)) (
   F27_J5 k now_18p now_18l now_18c s_19 got_20 x21 (x21 == 5)))
def F27 (k : Value → W) (now_1p : Option Addr) (now_1l : Nat) (now_1c : Nat) (x2 : Int) (x3 : Int) (s4p : Option Addr) (s4l : Nat) (s4c : Nat) (s5p : Option Addr) (s5l : Nat) (s5c : Nat) (s6p : Option Addr) (s6l : Nat) (s6c : Nat) (x7 : Int) (x8 : Int) (x9 : Int) (x10 : Int) (s11p : Option Addr) (s11l : Nat) (s11c : Nat) (s12p : Option Addr) (s12l : Nat) (s12c : Nat) (s13p : Option Addr) (s13l : Nat) (s13c : Nat) (x14 : Int) : W :=
 New [.int .i64 x2, .int .i64 x3, .slice s4p s4l s4c, .slice s5p s5l s5c, .slice s6p s6l s6c, .int .u64 x7, .int .i64 x8, .int .i64 x9, .int .i64 x10] 49 fun n15 =>
 New [.slice s11p s11l s11c, .slice s12p s12l s12c, .slice s13p s13l s13c, .int .u64 x14] 59 fun n16 =>
 LoadT (.int .i64) ⟨n15, 0, none⟩ fun x17 =>
 BIf (x17 == 1) (
  F27_J1 k now_1p now_1l now_1c ⟨n15, 0, none⟩ ⟨n16, 0, none⟩ x17 (x17 == 1)) (
  BIf (x17 == 2) (
   F27_J1 k now_1p now_1l now_1c ⟨n15, 0, none⟩ ⟨n16, 0, none⟩ x17 (x17 == 2)) (
   F27_J1 k now_1p now_1l now_1c ⟨n15, 0, none⟩ ⟨n16, 0, none⟩ x17 (x17 == 3)))
theorem F27_eq (k : Value → W) (now_1p : Option Addr) (now_1l : Nat) (now_1c : Nat) (x2 : Int) (x3 : Int) (s4p : Option Addr) (s4l : Nat) (s4c : Nat) (s5p : Option Addr) (s5l : Nat) (s5c : Nat) (s6p : Option Addr) (s6l : Nat) (s6c : Nat) (x7 : Int) (x8 : Int) (x9 : Int) (x10 : Int) (s11p : Option Addr) (s11l : Nat) (s11c : Nat) (s12p : Option Addr) (s12l : Nat) (s12c : Nat) (s13p : Option Addr) (s13l : Nat) (s13c : Nat) (x14 : Int) : compF Go.Proofs.Try.prog Go.Proofs.Try.f27 [(8, [(0, .slice), (4, .addr), (5, .addr), (8, (.int .i64))])] (Go.Proofs.Try.f27.body.getD .skip) [.slice now_1p now_1l now_1c, .agg #[.int .i64 x2, .int .i64 x3, .slice s4p s4l s4c, .slice s5p s5l s5c, .slice s6p s6l s6c, .int .u64 x7, .int .i64 x8, .int .i64 x9, .int .i64 x10], .agg #[.slice s11p s11l s11c, .slice s12p s12l s12c, .slice s13p s13l s13c, .int .u64 x14]] k = F27 k now_1p now_1l now_1c x2 x3 s4p s4l s4c s5p s5l s5c s6p s6l s6c x7 x8 x9 x10 s11p s11l s11c s12p s12l s12c s13p s13l s13c x14 := by kernel_rfl
theorem F27_calls {now_1p : Option Addr} {now_1l : Nat} {now_1c : Nat} {x2 : Int} {x3 : Int} {s4p : Option Addr} {s4l : Nat} {s4c : Nat} {s5p : Option Addr} {s5l : Nat} {s5c : Nat} {s6p : Option Addr} {s6l : Nat} {s6c : Nat} {x7 : Int} {x8 : Int} {x9 : Int} {x10 : Int} {s11p : Option Addr} {s11l : Nat} {s11c : Nat} {s12p : Option Addr} {s12l : Nat} {s12c : Nat} {s13p : Option Addr} {s13l : Nat} {s13c : Nat} {x14 : Int} {w : World} {R : Ending → World → Prop} (h : F27 (fun v w => R (.returned v) w) now_1p now_1l now_1c x2 x3 s4p s4l s4c s5p s5l s5c s6p s6l s6c x7 x8 x9 x10 s11p s11l s11c s12p s12l s12c s13p s13l s13c x14 w) : Calls Go.Proofs.Try.prog 27 #[.slice now_1p now_1l now_1c, .agg #[.int .i64 x2, .int .i64 x3, .slice s4p s4l s4c, .slice s5p s5l s5c, .slice s6p s6l s6c, .int .u64 x7, .int .i64 x8, .int .i64 x9, .int .i64 x10], .agg #[.slice s11p s11l s11c, .slice s12p s12l s12c, .slice s13p s13l s13c, .int .u64 x14]] w R :=
  calls_of_compF noNum follows [(8, [(0, .slice), (4, .addr), (5, .addr), (8, (.int .i64))])] (f := 27) (fn := Go.Proofs.Try.f27) (body := Go.Proofs.Try.f27.body.getD .skip) (args := [.slice now_1p now_1l now_1c, .agg #[.int .i64 x2, .int .i64 x3, .slice s4p s4l s4c, .slice s5p s5l s5c, .slice s6p s6l s6c, .int .u64 x7, .int .i64 x8, .int .i64 x9, .int .i64 x10], .agg #[.slice s11p s11l s11c, .slice s12p s12l s12c, .slice s13p s13l s13c, .int .u64 x14]]) rfl rfl (Nat.le_of_ble_eq_true rfl) ((congrFun (F27_eq _ now_1p now_1l now_1c x2 x3 s4p s4l s4c s5p s5l s5c s6p s6l s6c x7 x8 x9 x10 s11p s11l s11c s12p s12l s12c s13p s13l s13c x14) w).mpr h)
theorem F27_call {now_1p : Option Addr} {now_1l : Nat} {now_1c : Nat} {x2 : Int} {x3 : Int} {s4p : Option Addr} {s4l : Nat} {s4c : Nat} {s5p : Option Addr} {s5l : Nat} {s5c : Nat} {s6p : Option Addr} {s6l : Nat} {s6c : Nat} {x7 : Int} {x8 : Int} {x9 : Int} {x10 : Int} {s11p : Option Addr} {s11l : Nat} {s11c : Nat} {s12p : Option Addr} {s12l : Nat} {s12c : Nat} {s13p : Option Addr} {s13l : Nat} {s13c : Nat} {x14 : Int} {w : World} {g : Fn W (RTy.leaves (.tup [(.one .slice), (.one .bool)]))} (h : F27 (fun v => Back (.tup [(.one .slice), (.one .bool)]) g (.returned v)) now_1p now_1l now_1c x2 x3 s4p s4l s4c s5p s5l s5c s6p s6l s6c x7 x8 x9 x10 s11p s11l s11c s12p s12l s12c s13p s13l s13c x14 w) : CallT Go.Proofs.Try.prog 27 [.slice now_1p now_1l now_1c, .agg #[.int .i64 x2, .int .i64 x3, .slice s4p s4l s4c, .slice s5p s5l s5c, .slice s6p s6l s6c, .int .u64 x7, .int .i64 x8, .int .i64 x9, .int .i64 x10], .agg #[.slice s11p s11l s11c, .slice s12p s12l s12c, .slice s13p s13l s13c, .int .u64 x14]] (.tup [(.one .slice), (.one .bool)]) g w := F27_calls h

/-! ## laws.srPlays -/
def F11_L1 (k : Value → W) (again13 : Option Addr → Nat → Nat → Option Addr → Nat → Nat → Option Addr → Nat → Nat → Bool → Int → W) (steps_8p : Option Addr) (steps_8l : Nat) (steps_8c : Nat) (l_9p : Option Addr) (l_9l : Nat) (l_9c : Nat) (now_10p : Option Addr) (now_10l : Nat) (now_10c : Nat) (is_11 : Bool) (i_12 : Int) : W :=
 BIf (decide (i_12 < ((steps_8l : Nat) : Int))) (
  BIf is_11 (
   Drw <|
   NN steps_8p fun a14 =>
   Req (0 ≤ i_12 ∧ i_12 < ((steps_8l : Nat) : Int)) <|
   LoadT (.int .i64) ((a14.add (i_12.toNat * 9)).add 0) fun x15 =>
   LoadT (.int .i64) ((a14.add (i_12.toNat * 9)).add 1) fun x16 =>
   LoadT .slice ((a14.add (i_12.toNat * 9)).add 2) fun s17p s17l s17c =>
   LoadT .slice ((a14.add (i_12.toNat * 9)).add 3) fun s18p s18l s18c =>
   LoadT .slice ((a14.add (i_12.toNat * 9)).add 4) fun s19p s19l s19c =>
   LoadT (.int .u64) ((a14.add (i_12.toNat * 9)).add 5) fun x20 =>
   LoadT (.int .i64) ((a14.add (i_12.toNat * 9)).add 6) fun x21 =>
   LoadT (.int .i64) ((a14.add (i_12.toNat * 9)).add 7) fun x22 =>
   LoadT (.int .i64) ((a14.add (i_12.toNat * 9)).add 8) fun x23 =>
   NN l_9p fun a24 =>
   Req (0 ≤ i_12 ∧ i_12 < ((l_9l : Nat) : Int)) <|
   LoadT .slice ((a24.add (i_12.toNat * 4)).add 0) fun s25p s25l s25c =>
   LoadT .slice ((a24.add (i_12.toNat * 4)).add 1) fun s26p s26l s26c =>
   LoadT .slice ((a24.add (i_12.toNat * 4)).add 2) fun s27p s27l s27c =>
   LoadT (.int .u64) ((a24.add (i_12.toNat * 4)).add 3) fun x28 =>
   CallT Go.Proofs.Try.prog 28 [.agg #[.int .i64 x15, .int .i64 x16, .slice s17p s17l s17c, .slice s18p s18l s18c, .slice s19p s19l s19c, .int .u64 x20, .int .i64 x21, .int .i64 x22, .int .i64 x23]] (.s (.agg [(.int .i64), (.int .i64), .slice, .slice, .slice, (.int .u64), (.int .i64), (.int .i64), (.int .i64)])) fun x29 x30 s31p s31l s31c s32p s32l s32c s33p s33l s33c x34 x35 x36 x37 =>
   Chk1 ((a24.add (i_12.toNat * 4)).add 0) (.slice s25p s25l s25c) <|
   Chk1 ((a24.add (i_12.toNat * 4)).add 1) (.slice s26p s26l s26c) <|
   Chk1 ((a24.add (i_12.toNat * 4)).add 2) (.slice s27p s27l s27c) <|
   Chk1 ((a24.add (i_12.toNat * 4)).add 3) (.int .u64 x28) <|
   CallT Go.Proofs.Try.prog 27 [.slice now_10p now_10l now_10c, .agg #[.int .i64 x29, .int .i64 x30, .slice s31p s31l s31c, .slice s32p s32l s32c, .slice s33p s33l s33c, .int .u64 x34, .int .i64 x35, .int .i64 x36, .int .i64 x37], .agg #[.slice s25p s25l s25c, .slice s26p s26l s26c, .slice s27p s27l s27c, .int .u64 x28]] (.tup [(.one .slice), (.one .bool)]) fun s38p s38l s38c b39 =>
   Chk1 ((a14.add (i_12.toNat * 9)).add 0) (.int .i64 x15) <|
   Chk1 ((a14.add (i_12.toNat * 9)).add 1) (.int .i64 x16) <|
   Chk1 ((a14.add (i_12.toNat * 9)).add 2) (.slice s17p s17l s17c) <|
   Chk1 ((a14.add (i_12.toNat * 9)).add 3) (.slice s18p s18l s18c) <|
   Chk1 ((a14.add (i_12.toNat * 9)).add 4) (.slice s19p s19l s19c) <|
   Chk1 ((a14.add (i_12.toNat * 9)).add 5) (.int .u64 x20) <|
   Chk1 ((a14.add (i_12.toNat * 9)).add 6) (.int .i64 x21) <|
   Chk1 ((a14.add (i_12.toNat * 9)).add 7) (.int .i64 x22) <|
   Chk1 ((a14.add (i_12.toNat * 9)).add 8) (.int .i64 x23) <|
   again13 steps_8p steps_8l steps_8c l_9p l_9l l_9c s38p s38l s38c b39 (addI .i64 i_12 1)) (
   k (.bool is_11))) (
  k (.bool is_11))
theorem F11_L1_rule {k : Value → W} (I : Option Addr → Nat → Nat → Option Addr → Nat → Nat → Option Addr → Nat → Nat → Bool → Int → W) (μ : Option Addr → Nat → Nat → Option Addr → Nat → Nat → Option Addr → Nat → Nat → Bool → Int → World → Nat)
  (hr : ∀ (steps_8p : Option Addr) (steps_8l : Nat) (steps_8c : Nat) (l_9p : Option Addr) (l_9l : Nat) (l_9c : Nat) (now_10p : Option Addr) (now_10l : Nat) (now_10c : Nat) (is_11 : Bool) (i_12 : Int) (w : World), I steps_8p steps_8l steps_8c l_9p l_9l l_9c now_10p now_10l now_10c is_11 i_12 w → F11_L1 k (fun steps_8p' steps_8l' steps_8c' l_9p' l_9l' l_9c' now_10p' now_10l' now_10c' is_11' i_12' w' => I steps_8p' steps_8l' steps_8c' l_9p' l_9l' l_9c' now_10p' now_10l' now_10c' is_11' i_12' w' ∧ μ steps_8p' steps_8l' steps_8c' l_9p' l_9l' l_9c' now_10p' now_10l' now_10c' is_11' i_12' w' < μ steps_8p steps_8l steps_8c l_9p l_9l l_9c now_10p now_10l now_10c is_11 i_12 w) steps_8p steps_8l steps_8c l_9p l_9l l_9c now_10p now_10l now_10c is_11 i_12 w)
  {w : World} {steps_8p : Option Addr} {steps_8l : Nat} {steps_8c : Nat} {l_9p : Option Addr} {l_9l : Nat} {l_9c : Nat} {now_10p : Option Addr} {now_10l : Nat} {now_10c : Nat} {is_11 : Bool} {i_12 : Int} (h : I steps_8p steps_8l steps_8c l_9p l_9l l_9c now_10p now_10l now_10c is_11 i_12 w) : Loop [.slice, .slice, .slice, .bool, (.int .i64)] (F11_L1 k) steps_8p steps_8l steps_8c l_9p l_9l l_9c now_10p now_10l now_10c is_11 i_12 w :=
  Loop_intro (ts := [.slice, .slice, .slice, .bool, (.int .i64)]) (s := ((steps_8p, steps_8l, steps_8c), (l_9p, l_9l, l_9c), (now_10p, now_10l, now_10c), is_11, i_12, ())) (fun s w => I s.1.1 s.1.2.1 s.1.2.2 s.2.1.1 s.2.1.2.1 s.2.1.2.2 s.2.2.1.1 s.2.2.1.2.1 s.2.2.1.2.2 s.2.2.2.1 s.2.2.2.2.1 w) (fun s w => μ s.1.1 s.1.2.1 s.1.2.2 s.2.1.1 s.2.1.2.1 s.2.1.2.2 s.2.2.1.1 s.2.2.1.2.1 s.2.2.1.2.2 s.2.2.2.1 s.2.2.2.2.1 w) h (fun s w h => hr s.1.1 s.1.2.1 s.1.2.2 s.2.1.1 s.2.1.2.1 s.2.1.2.2 s.2.2.1.1 s.2.2.1.2.1 s.2.2.1.2.2 s.2.2.2.1 s.2.2.2.2.1 w h)
def F11 (k : Value → W) (dims_1 : Int) (seed_2 : Int) (moves_3p : Option Addr) (moves_3l : Nat) (moves_3c : Nat) (kinds_4p : Option Addr) (kinds_4l : Nat) (kinds_4c : Nat) : W :=
 CallT Go.Proofs.Try.prog 25 [.slice moves_3p moves_3l moves_3c] (.s (.one .slice)) fun s5p s5l s5c =>
 CallT Go.Proofs.Try.prog 24 [.int .i64 dims_1, .slice s5p s5l s5c, .slice kinds_4p kinds_4l kinds_4c] (.s (.one .slice)) fun s6p s6l s6c =>
 CallT Go.Proofs.Try.prog 26 [.int .u64 (IntKind.wrap .u64 dims_1), .int .i64 seed_2, .slice s6p s6l s6c] (.s (.one .slice)) fun s7p s7l s7c =>
 BIf (((s7l : Nat) : Int) != ((s6l : Nat) : Int)) (
  k (.bool false)) (
  Loop [.slice, .slice, .slice, .bool, (.int .i64)] (F11_L1 k) s6p s6l s6c s7p s7l s7c none 0 0 true 0)
theorem F11_eq (k : Value → W) (dims_1 : Int) (seed_2 : Int) (moves_3p : Option Addr) (moves_3l : Nat) (moves_3c : Nat) (kinds_4p : Option Addr) (kinds_4l : Nat) (kinds_4c : Nat) : compF Go.Proofs.Try.prog Go.Proofs.Try.f11 [(8, [(9, .slice), (10, .slice), (11, .slice), (12, .bool), (13, (.int .i64))])] (Go.Proofs.Try.f11.body.getD .skip) [.int .i64 dims_1, .int .i64 seed_2, .slice moves_3p moves_3l moves_3c, .slice kinds_4p kinds_4l kinds_4c] k = F11 k dims_1 seed_2 moves_3p moves_3l moves_3c kinds_4p kinds_4l kinds_4c := by kernel_rfl
theorem F11_calls {dims_1 : Int} {seed_2 : Int} {moves_3p : Option Addr} {moves_3l : Nat} {moves_3c : Nat} {kinds_4p : Option Addr} {kinds_4l : Nat} {kinds_4c : Nat} {w : World} {R : Ending → World → Prop} (h : F11 (fun v w => R (.returned v) w) dims_1 seed_2 moves_3p moves_3l moves_3c kinds_4p kinds_4l kinds_4c w) : Calls Go.Proofs.Try.prog 11 #[.int .i64 dims_1, .int .i64 seed_2, .slice moves_3p moves_3l moves_3c, .slice kinds_4p kinds_4l kinds_4c] w R :=
  calls_of_compF noNum follows [(8, [(9, .slice), (10, .slice), (11, .slice), (12, .bool), (13, (.int .i64))])] (f := 11) (fn := Go.Proofs.Try.f11) (body := Go.Proofs.Try.f11.body.getD .skip) (args := [.int .i64 dims_1, .int .i64 seed_2, .slice moves_3p moves_3l moves_3c, .slice kinds_4p kinds_4l kinds_4c]) rfl rfl (Nat.le_of_ble_eq_true rfl) ((congrFun (F11_eq _ dims_1 seed_2 moves_3p moves_3l moves_3c kinds_4p kinds_4l kinds_4c) w).mpr h)
theorem F11_call {dims_1 : Int} {seed_2 : Int} {moves_3p : Option Addr} {moves_3l : Nat} {moves_3c : Nat} {kinds_4p : Option Addr} {kinds_4l : Nat} {kinds_4c : Nat} {w : World} {g : Fn W (RTy.leaves (.s (.one .bool)))} (h : F11 (fun v => Back (.s (.one .bool)) g (.returned v)) dims_1 seed_2 moves_3p moves_3l moves_3c kinds_4p kinds_4l kinds_4c w) : CallT Go.Proofs.Try.prog 11 [.int .i64 dims_1, .int .i64 seed_2, .slice moves_3p moves_3l moves_3c, .slice kinds_4p kinds_4l kinds_4c] (.s (.one .bool)) g w := F11_calls h

/-! ## laws.FnSRAdds -/
def F5 (k : Value → W) (dims_1 : Int) (seed_2 : Int) (moves_3p : Option Addr) (moves_3l : Nat) (moves_3c : Nat) : W :=
 BIf (decide (((moves_3l : Nat) : Int) > 2147483647)) (
  k (.bool true)) (
  Req (3 ≠ (0 : Int)) <|
  RawT Go.Proofs.Try.prog (Instr.buildSlice 24 5 [(0, .int .i64 1), (1, .int .i64 1), (2, .int .i64 3), (3, .int .i64 1), (4, .int .i64 6)].toArray) (.s (.one .slice)) fun s4p s4l s4c =>
  CallT Go.Proofs.Try.prog 11 [.int .i64 (addI .i64 1 (remI (IntKind.wrap .i64 dims_1) 3)), .int .i64 seed_2, .slice moves_3p moves_3l moves_3c, .slice s4p s4l s4c] (.s (.one .bool)) fun b5 =>
  k (.bool b5))
theorem F5_eq (k : Value → W) (dims_1 : Int) (seed_2 : Int) (moves_3p : Option Addr) (moves_3l : Nat) (moves_3c : Nat) : compF Go.Proofs.Try.prog Go.Proofs.Try.f5 [] (Go.Proofs.Try.f5.body.getD .skip) [.int .u8 dims_1, .int .i64 seed_2, .slice moves_3p moves_3l moves_3c] k = F5 k dims_1 seed_2 moves_3p moves_3l moves_3c := by kernel_rfl
theorem F5_calls {dims_1 : Int} {seed_2 : Int} {moves_3p : Option Addr} {moves_3l : Nat} {moves_3c : Nat} {w : World} {R : Ending → World → Prop} (h : F5 (fun v w => R (.returned v) w) dims_1 seed_2 moves_3p moves_3l moves_3c w) : Calls Go.Proofs.Try.prog 5 #[.int .u8 dims_1, .int .i64 seed_2, .slice moves_3p moves_3l moves_3c] w R :=
  calls_of_compF noNum follows [] (f := 5) (fn := Go.Proofs.Try.f5) (body := Go.Proofs.Try.f5.body.getD .skip) (args := [.int .u8 dims_1, .int .i64 seed_2, .slice moves_3p moves_3l moves_3c]) rfl rfl (Nat.le_of_ble_eq_true rfl) ((congrFun (F5_eq _ dims_1 seed_2 moves_3p moves_3l moves_3c) w).mpr h)
theorem F5_call {dims_1 : Int} {seed_2 : Int} {moves_3p : Option Addr} {moves_3l : Nat} {moves_3c : Nat} {w : World} {g : Fn W (RTy.leaves (.s (.one .bool)))} (h : F5 (fun v => Back (.s (.one .bool)) g (.returned v)) dims_1 seed_2 moves_3p moves_3l moves_3c w) : CallT Go.Proofs.Try.prog 5 [.int .u8 dims_1, .int .i64 seed_2, .slice moves_3p moves_3l moves_3c] (.s (.one .bool)) g w := F5_calls h

end Go.Proofs.Ytfokodpnoiilbaa.E
