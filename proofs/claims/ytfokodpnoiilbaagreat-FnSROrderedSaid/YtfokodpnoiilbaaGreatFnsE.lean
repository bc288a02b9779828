/-
  Printed by this session's own program eng.py out of Lean's print of the loaded functions: what each function's body asks, in the engine's words; each is checked against the program by the kernel.
-/
import Derived.Test.YtfokodpnoiilbaaGreatEng
import Derived.Test.YtfokodpnoiilbaaGreatFnsA
namespace Go.Proofs.YtfokodpnoiilbaaGreat.E
open Go
set_option linter.unusedVariables false
set_option maxRecDepth 100000
/-! ## impl.answerSpots -/
def F20_L1 (k : Value → W) (again9 : Addr → Addr → Option Addr → Nat → Nat → Int → Int → W) (a4 : Addr) (out_5 : Addr) (s6p : Option Addr) (s6l : Nat) (s6c : Nat) (x7 : Int) (x8 : Int) : W :=
 BIf (decide (x8 < x7)) (
  NN s6p fun a10 =>
  Req (0 ≤ x8 ∧ x8 < ((s6l : Nat) : Int)) <|
  LoadT .any (a10.add x8.toNat) fun v11 =>
  RawS Go.Proofs.Tryz.prog (Instr.typeAssert v11 76 91 true) (.tup [(.agg [.slice, (.int .i64)]), (.one .bool)]) fun s12p s12l s12c x13 b14 =>
  New [.slice none 0 0, .int .i64 0] 91 fun n15 =>
  Store1 ⟨n15, 0, none⟩ (.slice s12p s12l s12c) <|
  Store1 ⟨n15, 1, none⟩ (.int .i64 x13) <|
  Drw <|
  LoadT .slice out_5 fun s16p s16l s16c =>
  LoadT .slice ⟨n15, 0, none⟩ fun s17p s17l s17c =>
  LoadT (.int .i64) ⟨n15, 1, none⟩ fun x18 =>
  LoadT .slice (out_5.add 1) fun s19p s19l s19c =>
  Both (
   RawT Go.Proofs.Tryz.prog (Instr.buildSlice 27 1 [(0, .agg #[.slice s17p s17l s17c, .int .i64 x18])].toArray) (.s (.one .slice)) fun s20p s20l s20c =>
   Chk1 (out_5.add 1) (.slice s19p s19l s19c) <|
   Chk1 out_5 (.slice s16p s16l s16c) <|
   Both (
    NextT Go.Proofs.Tryz.prog (builtin .append #[27, 27] 27 [false, false].toArray [.slice s16p s16l s16c, .slice s20p s20l s20c].toArray) (.s (.one .slice)) fun s21p s21l s21c =>
    Chk1 (out_5.add 1) (.slice s19p s19l s19c) <|
    Chk1 ⟨n15, 0, none⟩ (.slice s17p s17l s17c) <|
    Chk1 ⟨n15, 1, none⟩ (.int .i64 x18) <|
    RawT Go.Proofs.Tryz.prog (Instr.buildSlice 36 1 [(0, .bool b14)].toArray) (.s (.one .slice)) fun s22p s22l s22c =>
    Chk1 (out_5.add 1) (.slice s19p s19l s19c) <|
    Chk1 ⟨n15, 0, none⟩ (.slice s17p s17l s17c) <|
    Chk1 ⟨n15, 1, none⟩ (.int .i64 x18) <|
    Chk1 out_5 (.slice s16p s16l s16c) <|
    NextT Go.Proofs.Tryz.prog (builtin .append #[36, 36] 36 [false, false].toArray [.slice s19p s19l s19c, .slice s22p s22l s22c].toArray) (.s (.one .slice)) fun s23p s23l s23c =>
    Chk1 ⟨n15, 0, none⟩ (.slice s17p s17l s17c) <|
    Chk1 ⟨n15, 1, none⟩ (.int .i64 x18) <|
    Chk1 out_5 (.slice s16p s16l s16c) <|
    Store1 out_5 (.slice s21p s21l s21c) <|
    Store1 (out_5.add 1) (.slice s23p s23l s23c) <|
    again9 a4 out_5 s6p s6l s6c x7 (addI .i64 x8 1)) (
    RawT Go.Proofs.Tryz.prog (Instr.buildSlice 36 1 [(0, .bool b14)].toArray) (.s (.one .slice)) fun s24p s24l s24c =>
    Chk1 (out_5.add 1) (.slice s19p s19l s19c) <|
    Chk1 ⟨n15, 0, none⟩ (.slice s17p s17l s17c) <|
    Chk1 ⟨n15, 1, none⟩ (.int .i64 x18) <|
    Chk1 out_5 (.slice s16p s16l s16c) <|
    NextT Go.Proofs.Tryz.prog (builtin .append #[27, 27] 27 [false, false].toArray [.slice s16p s16l s16c, .slice s20p s20l s20c].toArray) (.s (.one .slice)) fun s25p s25l s25c =>
    Chk1 (out_5.add 1) (.slice s19p s19l s19c) <|
    Chk1 ⟨n15, 0, none⟩ (.slice s17p s17l s17c) <|
    Chk1 ⟨n15, 1, none⟩ (.int .i64 x18) <|
    NextT Go.Proofs.Tryz.prog (builtin .append #[36, 36] 36 [false, false].toArray [.slice s19p s19l s19c, .slice s24p s24l s24c].toArray) (.s (.one .slice)) fun s26p s26l s26c =>
    Chk1 ⟨n15, 0, none⟩ (.slice s17p s17l s17c) <|
    Chk1 ⟨n15, 1, none⟩ (.int .i64 x18) <|
    Chk1 out_5 (.slice s16p s16l s16c) <|
    Store1 out_5 (.slice s25p s25l s25c) <|
    Store1 (out_5.add 1) (.slice s26p s26l s26c) <|
    again9 a4 out_5 s6p s6l s6c x7 (addI .i64 x8 1))) (
   RawT Go.Proofs.Tryz.prog (Instr.buildSlice 36 1 [(0, .bool b14)].toArray) (.s (.one .slice)) fun s27p s27l s27c =>
   Chk1 (out_5.add 1) (.slice s19p s19l s19c) <|
   Chk1 ⟨n15, 0, none⟩ (.slice s17p s17l s17c) <|
   Chk1 ⟨n15, 1, none⟩ (.int .i64 x18) <|
   Chk1 out_5 (.slice s16p s16l s16c) <|
   RawT Go.Proofs.Tryz.prog (Instr.buildSlice 27 1 [(0, .agg #[.slice s17p s17l s17c, .int .i64 x18])].toArray) (.s (.one .slice)) fun s28p s28l s28c =>
   Chk1 (out_5.add 1) (.slice s19p s19l s19c) <|
   Chk1 out_5 (.slice s16p s16l s16c) <|
   NextT Go.Proofs.Tryz.prog (builtin .append #[27, 27] 27 [false, false].toArray [.slice s16p s16l s16c, .slice s28p s28l s28c].toArray) (.s (.one .slice)) fun s29p s29l s29c =>
   Chk1 (out_5.add 1) (.slice s19p s19l s19c) <|
   Chk1 ⟨n15, 0, none⟩ (.slice s17p s17l s17c) <|
   Chk1 ⟨n15, 1, none⟩ (.int .i64 x18) <|
   NextT Go.Proofs.Tryz.prog (builtin .append #[36, 36] 36 [false, false].toArray [.slice s19p s19l s19c, .slice s27p s27l s27c].toArray) (.s (.one .slice)) fun s30p s30l s30c =>
   Chk1 ⟨n15, 0, none⟩ (.slice s17p s17l s17c) <|
   Chk1 ⟨n15, 1, none⟩ (.int .i64 x18) <|
   Chk1 out_5 (.slice s16p s16l s16c) <|
   Store1 out_5 (.slice s29p s29l s29c) <|
   Store1 (out_5.add 1) (.slice s30p s30l s30c) <|
   again9 a4 out_5 s6p s6l s6c x7 (addI .i64 x8 1))) (
  LoadT .slice (out_5.add 0) fun s31p s31l s31c =>
  LoadT .slice (out_5.add 1) fun s32p s32l s32c =>
  LoadT .slice (out_5.add 2) fun s33p s33l s33c =>
  LoadT (.int .u64) (out_5.add 3) fun x34 =>
  Store1 (a4.add 0) (.slice s31p s31l s31c) <|
  Store1 (a4.add 1) (.slice s32p s32l s32c) <|
  Store1 (a4.add 2) (.slice s33p s33l s33c) <|
  Store1 (a4.add 3) (.int .u64 x34) <|
  LoadT .slice (a4.add 0) fun s35p s35l s35c =>
  LoadT .slice (a4.add 1) fun s36p s36l s36c =>
  LoadT .slice (a4.add 2) fun s37p s37l s37c =>
  LoadT (.int .u64) (a4.add 3) fun x38 =>
  k (.agg #[.slice s35p s35l s35c, .slice s36p s36l s36c, .slice s37p s37l s37c, .int .u64 x38]))
theorem F20_L1_rule {k : Value → W} (I : Addr → Addr → Option Addr → Nat → Nat → Int → Int → W) (μ : Addr → Addr → Option Addr → Nat → Nat → Int → Int → World → Nat)
  (hr : ∀ (a4 : Addr) (out_5 : Addr) (s6p : Option Addr) (s6l : Nat) (s6c : Nat) (x7 : Int) (x8 : Int) (w : World), I a4 out_5 s6p s6l s6c x7 x8 w → F20_L1 k (fun a4' out_5' s6p' s6l' s6c' x7' x8' w' => I a4' out_5' s6p' s6l' s6c' x7' x8' w' ∧ μ a4' out_5' s6p' s6l' s6c' x7' x8' w' < μ a4 out_5 s6p s6l s6c x7 x8 w) a4 out_5 s6p s6l s6c x7 x8 w)
  {w : World} {a4 : Addr} {out_5 : Addr} {s6p : Option Addr} {s6l : Nat} {s6c : Nat} {x7 : Int} {x8 : Int} (h : I a4 out_5 s6p s6l s6c x7 x8 w) : Loop [.addr, .addr, .slice, (.int .i64), (.int .i64)] (F20_L1 k) a4 out_5 s6p s6l s6c x7 x8 w :=
  Loop_intro (ts := [.addr, .addr, .slice, (.int .i64), (.int .i64)]) (s := (a4, out_5, (s6p, s6l, s6c), x7, x8, ())) (fun s w => I s.1 s.2.1 s.2.2.1.1 s.2.2.1.2.1 s.2.2.1.2.2 s.2.2.2.1 s.2.2.2.2.1 w) (fun s w => μ s.1 s.2.1 s.2.2.1.1 s.2.2.1.2.1 s.2.2.1.2.2 s.2.2.2.1 s.2.2.2.2.1 w) h (fun s w h => hr s.1 s.2.1 s.2.2.1.1 s.2.2.1.2.1 s.2.2.1.2.2 s.2.2.2.1 s.2.2.2.2.1 w h)
def F20 (k : Value → W) (l_1p : Option Addr) (l_1l : Nat) (l_1c : Nat) : W :=
 New [.slice none 0 0, .slice none 0 0, .slice none 0 0, .int .u64 0] 38 fun n2 =>
 New [.slice none 0 0, .slice none 0 0, .slice none 0 0, .int .u64 0] 38 fun n3 =>
 Loop [.addr, .addr, .slice, (.int .i64), (.int .i64)] (F20_L1 k) ⟨n2, 0, none⟩ ⟨n3, 0, none⟩ l_1p l_1l l_1c ((l_1l : Nat) : Int) 0
theorem F20_eq (k : Value → W) (l_1p : Option Addr) (l_1l : Nat) (l_1c : Nat) : compF Go.Proofs.Tryz.prog Go.Proofs.Tryz.f20 [(3, [(2, .addr), (3, .addr), (8, .slice), (9, (.int .i64)), (10, (.int .i64))])] (Go.Proofs.Tryz.f20.body.getD .skip) [.slice l_1p l_1l l_1c] k = F20 k l_1p l_1l l_1c := by kernel_rfl
theorem F20_calls {l_1p : Option Addr} {l_1l : Nat} {l_1c : Nat} {w : World} {R : Ending → World → Prop} (h : F20 (fun v w => R (.returned v) w) l_1p l_1l l_1c w) : Calls Go.Proofs.Tryz.prog 20 #[.slice l_1p l_1l l_1c] w R :=
  calls_of_compF noNum follows [(3, [(2, .addr), (3, .addr), (8, .slice), (9, (.int .i64)), (10, (.int .i64))])] (f := 20) (fn := Go.Proofs.Tryz.f20) (body := Go.Proofs.Tryz.f20.body.getD .skip) (args := [.slice l_1p l_1l l_1c]) rfl rfl (Nat.le_of_ble_eq_true rfl) ((congrFun (F20_eq _ l_1p l_1l l_1c) w).mpr h)
theorem F20_call {l_1p : Option Addr} {l_1l : Nat} {l_1c : Nat} {w : World} {g : Fn W (RTy.leaves (.s (.agg [.slice, .slice, .slice, (.int .u64)])))} (h : F20 (fun v => Back (.s (.agg [.slice, .slice, .slice, (.int .u64)])) g (.returned v)) l_1p l_1l l_1c w) : CallT Go.Proofs.Tryz.prog 20 [.slice l_1p l_1l l_1c] (.s (.agg [.slice, .slice, .slice, (.int .u64)])) g w := F20_calls h

/-! ## impl.spots -/
def F21_L1 (k : Value → W) (again6 : Option Addr → Nat → Nat → Option Addr → Nat → Nat → Int → Int → W) (out_2p : Option Addr) (out_2l : Nat) (out_2c : Nat) (s3p : Option Addr) (s3l : Nat) (s3c : Nat) (x4 : Int) (x5 : Int) : W :=
 BIf (decide (x5 < x4)) (
  NN s3p fun a7 =>
  Req (0 ≤ x5 ∧ x5 < ((s3l : Nat) : Int)) <|
  LoadT .slice ((a7.add (x5.toNat * 2)).add 0) fun s8p s8l s8c =>
  LoadT (.int .i64) ((a7.add (x5.toNat * 2)).add 1) fun x9 =>
  New [.slice none 0 0, .int .i64 0] 42 fun n10 =>
  Store1 ⟨n10, 0, none⟩ (.slice s8p s8l s8c) <|
  Store1 ⟨n10, 1, none⟩ (.int .i64 x9) <|
  LoadT .slice ⟨n10, 0, none⟩ fun s11p s11l s11c =>
  LoadT (.int .i64) ⟨n10, 1, none⟩ fun x12 =>
  RawT Go.Proofs.Tryz.prog (Instr.buildSlice 69 1 [(0, .iface 91 (.agg #[.slice s11p s11l s11c, .int .i64 x12]))].toArray) (.s (.one .slice)) fun s13p s13l s13c =>
  NextT Go.Proofs.Tryz.prog (builtin .append #[69, 69] 69 [false, false].toArray [.slice out_2p out_2l out_2c, .slice s13p s13l s13c].toArray) (.s (.one .slice)) fun s14p s14l s14c =>
  again6 s14p s14l s14c s3p s3l s3c x4 (addI .i64 x5 1)) (
  k (.slice out_2p out_2l out_2c))
theorem F21_L1_rule {k : Value → W} (I : Option Addr → Nat → Nat → Option Addr → Nat → Nat → Int → Int → W) (μ : Option Addr → Nat → Nat → Option Addr → Nat → Nat → Int → Int → World → Nat)
  (hr : ∀ (out_2p : Option Addr) (out_2l : Nat) (out_2c : Nat) (s3p : Option Addr) (s3l : Nat) (s3c : Nat) (x4 : Int) (x5 : Int) (w : World), I out_2p out_2l out_2c s3p s3l s3c x4 x5 w → F21_L1 k (fun out_2p' out_2l' out_2c' s3p' s3l' s3c' x4' x5' w' => I out_2p' out_2l' out_2c' s3p' s3l' s3c' x4' x5' w' ∧ μ out_2p' out_2l' out_2c' s3p' s3l' s3c' x4' x5' w' < μ out_2p out_2l out_2c s3p s3l s3c x4 x5 w) out_2p out_2l out_2c s3p s3l s3c x4 x5 w)
  {w : World} {out_2p : Option Addr} {out_2l : Nat} {out_2c : Nat} {s3p : Option Addr} {s3l : Nat} {s3c : Nat} {x4 : Int} {x5 : Int} (h : I out_2p out_2l out_2c s3p s3l s3c x4 x5 w) : Loop [.slice, .slice, (.int .i64), (.int .i64)] (F21_L1 k) out_2p out_2l out_2c s3p s3l s3c x4 x5 w :=
  Loop_intro (ts := [.slice, .slice, (.int .i64), (.int .i64)]) (s := ((out_2p, out_2l, out_2c), (s3p, s3l, s3c), x4, x5, ())) (fun s w => I s.1.1 s.1.2.1 s.1.2.2 s.2.1.1 s.2.1.2.1 s.2.1.2.2 s.2.2.1 s.2.2.2.1 w) (fun s w => μ s.1.1 s.1.2.1 s.1.2.2 s.2.1.1 s.2.1.2.1 s.2.1.2.2 s.2.2.1 s.2.2.2.1 w) h (fun s w h => hr s.1.1 s.1.2.1 s.1.2.2 s.2.1.1 s.2.1.2.1 s.2.1.2.2 s.2.2.1 s.2.2.2.1 w h)
def F21 (k : Value → W) (l_1p : Option Addr) (l_1l : Nat) (l_1c : Nat) : W :=
 Loop [.slice, .slice, (.int .i64), (.int .i64)] (F21_L1 k) none 0 0 l_1p l_1l l_1c ((l_1l : Nat) : Int) 0
theorem F21_eq (k : Value → W) (l_1p : Option Addr) (l_1l : Nat) (l_1c : Nat) : compF Go.Proofs.Tryz.prog Go.Proofs.Tryz.f21 [(3, [(3, .slice), (6, .slice), (7, (.int .i64)), (8, (.int .i64))])] (Go.Proofs.Tryz.f21.body.getD .skip) [.slice l_1p l_1l l_1c] k = F21 k l_1p l_1l l_1c := by kernel_rfl
theorem F21_calls {l_1p : Option Addr} {l_1l : Nat} {l_1c : Nat} {w : World} {R : Ending → World → Prop} (h : F21 (fun v w => R (.returned v) w) l_1p l_1l l_1c w) : Calls Go.Proofs.Tryz.prog 21 #[.slice l_1p l_1l l_1c] w R :=
  calls_of_compF noNum follows [(3, [(3, .slice), (6, .slice), (7, (.int .i64)), (8, (.int .i64))])] (f := 21) (fn := Go.Proofs.Tryz.f21) (body := Go.Proofs.Tryz.f21.body.getD .skip) (args := [.slice l_1p l_1l l_1c]) rfl rfl (Nat.le_of_ble_eq_true rfl) ((congrFun (F21_eq _ l_1p l_1l l_1c) w).mpr h)
theorem F21_call {l_1p : Option Addr} {l_1l : Nat} {l_1c : Nat} {w : World} {g : Fn W (RTy.leaves (.s (.one .slice)))} (h : F21 (fun v => Back (.s (.one .slice)) g (.returned v)) l_1p l_1l l_1c w) : CallT Go.Proofs.Tryz.prog 21 [.slice l_1p l_1l l_1c] (.s (.one .slice)) g w := F21_calls h

/-! ## impl.spotStep -/
def F16 (k : Value → W) (t_1 : Value) (x2 : Int) (x3 : Int) (s4p : Option Addr) (s4l : Nat) (s4c : Nat) (s5p : Option Addr) (s5l : Nat) (s5c : Nat) (s6p : Option Addr) (s6l : Nat) (s6c : Nat) (x7 : Int) (x8 : Int) (x9 : Int) (x10 : Int) : W :=
 New [.int .i64 x2, .int .i64 x3, .slice s4p s4l s4c, .slice s5p s5l s5c, .slice s6p s6l s6c, .int .u64 x7, .int .i64 x8, .int .i64 x9, .int .i64 x10] 31 fun n11 =>
 New [.slice none 0 0, .slice none 0 0, .slice none 0 0, .int .u64 0] 38 fun n12 =>
 LoadT .slice ⟨n11, 3, none⟩ fun s13p s13l s13c =>
 LoadT .slice ⟨n11, 4, none⟩ fun s14p s14l s14c =>
 New [.slice none 0 0, .slice none 0 0, .int .u64 0] 67 fun n15 =>
 Store1 ⟨n15, 0, none⟩ (.slice s13p s13l s13c) <|
 Store1 ⟨n15, 1, none⟩ (.slice s14p s14l s14c) <|
 Store1 ⟨n15, 2, none⟩ (.int .u64 0) <|
 LoadT (.int .i64) ⟨n11, 0, none⟩ fun x16 =>
 BIf (x16 == 1) (
  Drw <|
  LoadT .slice ⟨n11, 2, none⟩ fun s17p s17l s17c =>
  MethOk Go.Proofs.Tryz.prog (.func (.method "Add") #[t_1] #[]) <|
  CallT Go.Proofs.Tryz.prog 21 [.slice s17p s17l s17c] (.s (.one .slice)) fun s18p s18l s18c =>
  NextT Go.Proofs.Tryz.prog (callMethod t_1 "Add" [.slice s18p s18l s18c].toArray) (.s (.one .slice)) fun s19p s19l s19c =>
  Chk1 ⟨n11, 2, none⟩ (.slice s17p s17l s17c) <|
  CallT Go.Proofs.Tryz.prog 20 [.slice s19p s19l s19c] (.s (.agg [.slice, .slice, .slice, (.int .u64)])) fun s20p s20l s20c s21p s21l s21c s22p s22l s22c x23 =>
  Chk1 ⟨n11, 2, none⟩ (.slice s17p s17l s17c) <|
  Store1 ⟨n12, 0, none⟩ (.slice s20p s20l s20c) <|
  Store1 ⟨n12, 1, none⟩ (.slice s21p s21l s21c) <|
  Store1 ⟨n12, 2, none⟩ (.slice s22p s22l s22c) <|
  Store1 ⟨n12, 3, none⟩ (.int .u64 x23) <|
  LoadT .slice ⟨n12, 0, none⟩ fun s24p s24l s24c =>
  LoadT .slice ⟨n12, 1, none⟩ fun s25p s25l s25c =>
  LoadT .slice ⟨n12, 2, none⟩ fun s26p s26l s26c =>
  LoadT (.int .u64) ⟨n12, 3, none⟩ fun x27 =>
  k (.agg #[.slice s24p s24l s24c, .slice s25p s25l s25c, .slice s26p s26l s26c, .int .u64 x27])) (
  BIf (x16 == 2) (
   Drw <|
   LoadT .slice ⟨n11, 2, none⟩ fun s28p s28l s28c =>
   MethOk Go.Proofs.Tryz.prog (.func (.method "Delete") #[t_1] #[]) <|
   CallT Go.Proofs.Tryz.prog 21 [.slice s28p s28l s28c] (.s (.one .slice)) fun s29p s29l s29c =>
   NextT Go.Proofs.Tryz.prog (callMethod t_1 "Delete" [.slice s29p s29l s29c].toArray) (.s (.one .slice)) fun s30p s30l s30c =>
   Chk1 ⟨n11, 2, none⟩ (.slice s28p s28l s28c) <|
   CallT Go.Proofs.Tryz.prog 20 [.slice s30p s30l s30c] (.s (.agg [.slice, .slice, .slice, (.int .u64)])) fun s31p s31l s31c s32p s32l s32c s33p s33l s33c x34 =>
   Chk1 ⟨n11, 2, none⟩ (.slice s28p s28l s28c) <|
   Store1 ⟨n12, 0, none⟩ (.slice s31p s31l s31c) <|
   Store1 ⟨n12, 1, none⟩ (.slice s32p s32l s32c) <|
   Store1 ⟨n12, 2, none⟩ (.slice s33p s33l s33c) <|
   Store1 ⟨n12, 3, none⟩ (.int .u64 x34) <|
   LoadT .slice ⟨n12, 0, none⟩ fun s35p s35l s35c =>
   LoadT .slice ⟨n12, 1, none⟩ fun s36p s36l s36c =>
   LoadT .slice ⟨n12, 2, none⟩ fun s37p s37l s37c =>
   LoadT (.int .u64) ⟨n12, 3, none⟩ fun x38 =>
   k (.agg #[.slice s35p s35l s35c, .slice s36p s36l s36c, .slice s37p s37l s37c, .int .u64 x38])) (
   BIf (x16 == 3) (
    Drw <|
    LoadT .slice ⟨n11, 2, none⟩ fun s39p s39l s39c =>
    MethOk Go.Proofs.Tryz.prog (.func (.method "Get") #[t_1] #[]) <|
    CallT Go.Proofs.Tryz.prog 21 [.slice s39p s39l s39c] (.s (.one .slice)) fun s40p s40l s40c =>
    NextT Go.Proofs.Tryz.prog (callMethod t_1 "Get" [.slice s40p s40l s40c].toArray) (.s (.one .slice)) fun s41p s41l s41c =>
    Chk1 ⟨n11, 2, none⟩ (.slice s39p s39l s39c) <|
    CallT Go.Proofs.Tryz.prog 20 [.slice s41p s41l s41c] (.s (.agg [.slice, .slice, .slice, (.int .u64)])) fun s42p s42l s42c s43p s43l s43c s44p s44l s44c x45 =>
    Chk1 ⟨n11, 2, none⟩ (.slice s39p s39l s39c) <|
    Store1 ⟨n12, 0, none⟩ (.slice s42p s42l s42c) <|
    Store1 ⟨n12, 1, none⟩ (.slice s43p s43l s43c) <|
    Store1 ⟨n12, 2, none⟩ (.slice s44p s44l s44c) <|
    Store1 ⟨n12, 3, none⟩ (.int .u64 x45) <|
    LoadT .slice ⟨n12, 0, none⟩ fun s46p s46l s46c =>
    LoadT .slice ⟨n12, 1, none⟩ fun s47p s47l s47c =>
    LoadT .slice ⟨n12, 2, none⟩ fun s48p s48l s48c =>
    LoadT (.int .u64) ⟨n12, 3, none⟩ fun x49 =>
    k (.agg #[.slice s46p s46l s46c, .slice s47p s47l s47c, .slice s48p s48l s48c, .int .u64 x49])) (
    BIf (x16 == 4) (
     LoadT .slice ⟨n15, 0, none⟩ fun s50p s50l s50c =>
     LoadT .slice ⟨n15, 1, none⟩ fun s51p s51l s51c =>
     LoadT (.int .u64) ⟨n15, 2, none⟩ fun x52 =>
     NextT Go.Proofs.Tryz.prog (callMethod t_1 "Query" [.iface 67 (.agg #[.slice s50p s50l s50c, .slice s51p s51l s51c, .int .u64 x52])].toArray) (.s (.one .slice)) fun s53p s53l s53c =>
     CallT Go.Proofs.Tryz.prog 20 [.slice s53p s53l s53c] (.s (.agg [.slice, .slice, .slice, (.int .u64)])) fun s54p s54l s54c s55p s55l s55c s56p s56l s56c x57 =>
     Store1 ⟨n12, 0, none⟩ (.slice s54p s54l s54c) <|
     Store1 ⟨n12, 1, none⟩ (.slice s55p s55l s55c) <|
     Store1 ⟨n12, 2, none⟩ (.slice s56p s56l s56c) <|
     Store1 ⟨n12, 3, none⟩ (.int .u64 x57) <|
     LoadT .slice ⟨n12, 0, none⟩ fun s58p s58l s58c =>
     LoadT .slice ⟨n12, 1, none⟩ fun s59p s59l s59c =>
     LoadT .slice ⟨n12, 2, none⟩ fun s60p s60l s60c =>
     LoadT (.int .u64) ⟨n12, 3, none⟩ fun x61 =>
     k (.agg #[.slice s58p s58l s58c, .slice s59p s59l s59c, .slice s60p s60l s60c, .int .u64 x61])) (
     BIf (x16 == 5) (
      New [.slice none 0 0] 70 fun n62 =>
      LoadT .slice ⟨n15, 0, none⟩ fun s63p s63l s63c =>
      LoadT .slice ⟨n15, 1, none⟩ fun s64p s64l s64c =>
      LoadT (.int .u64) ⟨n15, 2, none⟩ fun x65 =>
      NextT Go.Proofs.Tryz.prog (callMethod t_1 "Apply" [.iface 67 (.agg #[.slice s63p s63l s63c, .slice s64p s64l s64c, .int .u64 x65]), .func (.func 22) #[] #[.pointer (some ⟨n62, 0, none⟩), .pointer (some ⟨n11, 0, none⟩)]].toArray) (.tup []) <|
      LoadT .slice ⟨n62, 0, none⟩ fun s66p s66l s66c =>
      CallT Go.Proofs.Tryz.prog 20 [.slice s66p s66l s66c] (.s (.agg [.slice, .slice, .slice, (.int .u64)])) fun s67p s67l s67c s68p s68l s68c s69p s69l s69c x70 =>
      Store1 ⟨n12, 0, none⟩ (.slice s67p s67l s67c) <|
      Store1 ⟨n12, 1, none⟩ (.slice s68p s68l s68c) <|
      Store1 ⟨n12, 2, none⟩ (.slice s69p s69l s69c) <|
      Store1 ⟨n12, 3, none⟩ (.int .u64 x70) <|
      LoadT .slice ⟨n12, 0, none⟩ fun s71p s71l s71c =>
      LoadT .slice ⟨n12, 1, none⟩ fun s72p s72l s72c =>
      LoadT .slice ⟨n12, 2, none⟩ fun s73p s73l s73c =>
      LoadT (.int .u64) ⟨n12, 3, none⟩ fun x74 =>
      k (.agg #[.slice s71p s71l s71c, .slice s72p s72l s72c, .slice s73p s73l s73c, .int .u64 x74])) (
      BIf (x16 == 6) (
       NextT Go.Proofs.Tryz.prog (callMethod t_1 "Len" [].toArray) (.s (.one (.int .u64))) fun x75 =>
       Store1 ⟨n12, 0, none⟩ (.slice none 0 0) <|
       Store1 ⟨n12, 1, none⟩ (.slice none 0 0) <|
       Store1 ⟨n12, 2, none⟩ (.slice none 0 0) <|
       Store1 ⟨n12, 3, none⟩ (.int .u64 x75) <|
       LoadT .slice ⟨n12, 0, none⟩ fun s76p s76l s76c =>
       LoadT .slice ⟨n12, 1, none⟩ fun s77p s77l s77c =>
       LoadT .slice ⟨n12, 2, none⟩ fun s78p s78l s78c =>
       LoadT (.int .u64) ⟨n12, 3, none⟩ fun x79 =>
       k (.agg #[.slice s76p s76l s76c, .slice s77p s77l s77c, .slice s78p s78l s78c, .int .u64 x79])) (
       BIf (x16 == 7) (
        LoadT (.int .u64) ⟨n11, 5, none⟩ fun x80 =>
        LoadT (.int .i64) ⟨n11, 6, none⟩ fun x81 =>
        LoadT (.int .i64) ⟨n11, 7, none⟩ fun x82 =>
        NextT Go.Proofs.Tryz.prog (callMethod t_1 "InsertAtDimension" [.int .u64 (subI .u64 x80 1), .int .i64 x81, .int .i64 x82].toArray) (.tup [(.one .slice), (.one .slice)]) fun s83p s83l s83c s84p s84l s84c =>
        CallT Go.Proofs.Tryz.prog 20 [.slice s83p s83l s83c] (.s (.agg [.slice, .slice, .slice, (.int .u64)])) fun s85p s85l s85c s86p s86l s86c s87p s87l s87c x88 =>
        New [.slice none 0 0, .slice none 0 0, .slice none 0 0, .int .u64 0] 38 fun n89 =>
        Store1 ⟨n89, 0, none⟩ (.slice s85p s85l s85c) <|
        Store1 ⟨n89, 1, none⟩ (.slice s86p s86l s86c) <|
        Store1 ⟨n89, 2, none⟩ (.slice s87p s87l s87c) <|
        Store1 ⟨n89, 3, none⟩ (.int .u64 x88) <|
        CallT Go.Proofs.Tryz.prog 20 [.slice s84p s84l s84c] (.s (.agg [.slice, .slice, .slice, (.int .u64)])) fun s90p s90l s90c s91p s91l s91c s92p s92l s92c x93 =>
        Store1 ⟨n89, 2, none⟩ (.slice s90p s90l s90c) <|
        LoadT .slice ⟨n89, 0, none⟩ fun s94p s94l s94c =>
        LoadT .slice ⟨n89, 1, none⟩ fun s95p s95l s95c =>
        LoadT .slice ⟨n89, 2, none⟩ fun s96p s96l s96c =>
        LoadT (.int .u64) ⟨n89, 3, none⟩ fun x97 =>
        Store1 ⟨n12, 0, none⟩ (.slice s94p s94l s94c) <|
        Store1 ⟨n12, 1, none⟩ (.slice s95p s95l s95c) <|
        Store1 ⟨n12, 2, none⟩ (.slice s96p s96l s96c) <|
        Store1 ⟨n12, 3, none⟩ (.int .u64 x97) <|
        LoadT .slice ⟨n12, 0, none⟩ fun s98p s98l s98c =>
        LoadT .slice ⟨n12, 1, none⟩ fun s99p s99l s99c =>
        LoadT .slice ⟨n12, 2, none⟩ fun s100p s100l s100c =>
        LoadT (.int .u64) ⟨n12, 3, none⟩ fun x101 =>
        k (.agg #[.slice s98p s98l s98c, .slice s99p s99l s99c, .slice s100p s100l s100c, .int .u64 x101])) (
        Store1 ⟨n12, 0, none⟩ (.slice none 0 0) <|
        Store1 ⟨n12, 1, none⟩ (.slice none 0 0) <|
        Store1 ⟨n12, 2, none⟩ (.slice none 0 0) <|
        Store1 ⟨n12, 3, none⟩ (.int .u64 0) <|
        LoadT .slice ⟨n12, 0, none⟩ fun s102p s102l s102c =>
        LoadT .slice ⟨n12, 1, none⟩ fun s103p s103l s103c =>
        LoadT .slice ⟨n12, 2, none⟩ fun s104p s104l s104c =>
        LoadT (.int .u64) ⟨n12, 3, none⟩ fun x105 =>
        k (.agg #[.slice s102p s102l s102c, .slice s103p s103l s103c, .slice s104p s104l s104c, .int .u64 x105]))))))))
theorem F16_eq (k : Value → W) (t_1 : Value) (x2 : Int) (x3 : Int) (s4p : Option Addr) (s4l : Nat) (s4c : Nat) (s5p : Option Addr) (s5l : Nat) (s5c : Nat) (s6p : Option Addr) (s6l : Nat) (s6c : Nat) (x7 : Int) (x8 : Int) (x9 : Int) (x10 : Int) : compF Go.Proofs.Tryz.prog Go.Proofs.Tryz.f16 [] (Go.Proofs.Tryz.f16.body.getD .skip) [t_1, .agg #[.int .i64 x2, .int .i64 x3, .slice s4p s4l s4c, .slice s5p s5l s5c, .slice s6p s6l s6c, .int .u64 x7, .int .i64 x8, .int .i64 x9, .int .i64 x10]] k = F16 k t_1 x2 x3 s4p s4l s4c s5p s5l s5c s6p s6l s6c x7 x8 x9 x10 := by kernel_rfl
theorem F16_calls {t_1 : Value} {x2 : Int} {x3 : Int} {s4p : Option Addr} {s4l : Nat} {s4c : Nat} {s5p : Option Addr} {s5l : Nat} {s5c : Nat} {s6p : Option Addr} {s6l : Nat} {s6c : Nat} {x7 : Int} {x8 : Int} {x9 : Int} {x10 : Int} {w : World} {R : Ending → World → Prop} (h : F16 (fun v w => R (.returned v) w) t_1 x2 x3 s4p s4l s4c s5p s5l s5c s6p s6l s6c x7 x8 x9 x10 w) : Calls Go.Proofs.Tryz.prog 16 #[t_1, .agg #[.int .i64 x2, .int .i64 x3, .slice s4p s4l s4c, .slice s5p s5l s5c, .slice s6p s6l s6c, .int .u64 x7, .int .i64 x8, .int .i64 x9, .int .i64 x10]] w R :=
  calls_of_compF noNum follows [] (f := 16) (fn := Go.Proofs.Tryz.f16) (body := Go.Proofs.Tryz.f16.body.getD .skip) (args := [t_1, .agg #[.int .i64 x2, .int .i64 x3, .slice s4p s4l s4c, .slice s5p s5l s5c, .slice s6p s6l s6c, .int .u64 x7, .int .i64 x8, .int .i64 x9, .int .i64 x10]]) rfl rfl (Nat.le_of_ble_eq_true rfl) ((congrFun (F16_eq _ t_1 x2 x3 s4p s4l s4c s5p s5l s5c s6p s6l s6c x7 x8 x9 x10) w).mpr h)
theorem F16_call {t_1 : Value} {x2 : Int} {x3 : Int} {s4p : Option Addr} {s4l : Nat} {s4c : Nat} {s5p : Option Addr} {s5l : Nat} {s5c : Nat} {s6p : Option Addr} {s6l : Nat} {s6c : Nat} {x7 : Int} {x8 : Int} {x9 : Int} {x10 : Int} {w : World} {g : Fn W (RTy.leaves (.s (.agg [.slice, .slice, .slice, (.int .u64)])))} (h : F16 (fun v => Back (.s (.agg [.slice, .slice, .slice, (.int .u64)])) g (.returned v)) t_1 x2 x3 s4p s4l s4c s5p s5l s5c s6p s6l s6c x7 x8 x9 x10 w) : CallT Go.Proofs.Tryz.prog 16 [t_1, .agg #[.int .i64 x2, .int .i64 x3, .slice s4p s4l s4c, .slice s5p s5l s5c, .slice s6p s6l s6c, .int .u64 x7, .int .i64 x8, .int .i64 x9, .int .i64 x10]] (.s (.agg [.slice, .slice, .slice, (.int .u64)])) g w := F16_calls h

/-! ## impl.SRRun -/
def F7_L1 (k : Value → W) (again10 : Value → Option Addr → Nat → Nat → Option Addr → Nat → Nat → Int → Int → W) (t_5 : Value) (out_6p : Option Addr) (out_6l : Nat) (out_6c : Nat) (s7p : Option Addr) (s7l : Nat) (s7c : Nat) (x8 : Int) (x9 : Int) : W :=
 BIf (decide (x9 < x8)) (
  NN s7p fun a11 =>
  Req (0 ≤ x9 ∧ x9 < ((s7l : Nat) : Int)) <|
  LoadT (.int .i64) ((a11.add (x9.toNat * 9)).add 0) fun x12 =>
  LoadT (.int .i64) ((a11.add (x9.toNat * 9)).add 1) fun x13 =>
  LoadT .slice ((a11.add (x9.toNat * 9)).add 2) fun s14p s14l s14c =>
  LoadT .slice ((a11.add (x9.toNat * 9)).add 3) fun s15p s15l s15c =>
  LoadT .slice ((a11.add (x9.toNat * 9)).add 4) fun s16p s16l s16c =>
  LoadT (.int .u64) ((a11.add (x9.toNat * 9)).add 5) fun x17 =>
  LoadT (.int .i64) ((a11.add (x9.toNat * 9)).add 6) fun x18 =>
  LoadT (.int .i64) ((a11.add (x9.toNat * 9)).add 7) fun x19 =>
  LoadT (.int .i64) ((a11.add (x9.toNat * 9)).add 8) fun x20 =>
  New [.int .i64 0, .int .i64 0, .slice none 0 0, .slice none 0 0, .slice none 0 0, .int .u64 0, .int .i64 0, .int .i64 0, .int .i64 0] 31 fun n21 =>
  Store1 ⟨n21, 0, none⟩ (.int .i64 x12) <|
  Store1 ⟨n21, 1, none⟩ (.int .i64 x13) <|
  Store1 ⟨n21, 2, none⟩ (.slice s14p s14l s14c) <|
  Store1 ⟨n21, 3, none⟩ (.slice s15p s15l s15c) <|
  Store1 ⟨n21, 4, none⟩ (.slice s16p s16l s16c) <|
  Store1 ⟨n21, 5, none⟩ (.int .u64 x17) <|
  Store1 ⟨n21, 6, none⟩ (.int .i64 x18) <|
  Store1 ⟨n21, 7, none⟩ (.int .i64 x19) <|
  Store1 ⟨n21, 8, none⟩ (.int .i64 x20) <|
  LoadT (.int .i64) ⟨n21, 0, none⟩ fun x22 =>
  LoadT (.int .i64) ⟨n21, 1, none⟩ fun x23 =>
  LoadT .slice ⟨n21, 2, none⟩ fun s24p s24l s24c =>
  LoadT .slice ⟨n21, 3, none⟩ fun s25p s25l s25c =>
  LoadT .slice ⟨n21, 4, none⟩ fun s26p s26l s26c =>
  LoadT (.int .u64) ⟨n21, 5, none⟩ fun x27 =>
  LoadT (.int .i64) ⟨n21, 6, none⟩ fun x28 =>
  LoadT (.int .i64) ⟨n21, 7, none⟩ fun x29 =>
  LoadT (.int .i64) ⟨n21, 8, none⟩ fun x30 =>
  CallT Go.Proofs.Tryz.prog 16 [t_5, .agg #[.int .i64 x22, .int .i64 x23, .slice s24p s24l s24c, .slice s25p s25l s25c, .slice s26p s26l s26c, .int .u64 x27, .int .i64 x28, .int .i64 x29, .int .i64 x30]] (.s (.agg [.slice, .slice, .slice, (.int .u64)])) fun s31p s31l s31c s32p s32l s32c s33p s33l s33c x34 =>
  RawT Go.Proofs.Tryz.prog (Instr.buildSlice 33 1 [(0, .agg #[.slice s31p s31l s31c, .slice s32p s32l s32c, .slice s33p s33l s33c, .int .u64 x34])].toArray) (.s (.one .slice)) fun s35p s35l s35c =>
  NextT Go.Proofs.Tryz.prog (builtin .append #[33, 33] 33 [false, false].toArray [.slice out_6p out_6l out_6c, .slice s35p s35l s35c].toArray) (.s (.one .slice)) fun s36p s36l s36c =>
  again10 t_5 s36p s36l s36c s7p s7l s7c x8 (addI .i64 x9 1)) (
  k (.slice out_6p out_6l out_6c))
theorem F7_L1_rule {k : Value → W} (I : Value → Option Addr → Nat → Nat → Option Addr → Nat → Nat → Int → Int → W) (μ : Value → Option Addr → Nat → Nat → Option Addr → Nat → Nat → Int → Int → World → Nat)
  (hr : ∀ (t_5 : Value) (out_6p : Option Addr) (out_6l : Nat) (out_6c : Nat) (s7p : Option Addr) (s7l : Nat) (s7c : Nat) (x8 : Int) (x9 : Int) (w : World), I t_5 out_6p out_6l out_6c s7p s7l s7c x8 x9 w → F7_L1 k (fun t_5' out_6p' out_6l' out_6c' s7p' s7l' s7c' x8' x9' w' => I t_5' out_6p' out_6l' out_6c' s7p' s7l' s7c' x8' x9' w' ∧ μ t_5' out_6p' out_6l' out_6c' s7p' s7l' s7c' x8' x9' w' < μ t_5 out_6p out_6l out_6c s7p s7l s7c x8 x9 w) t_5 out_6p out_6l out_6c s7p s7l s7c x8 x9 w)
  {w : World} {t_5 : Value} {out_6p : Option Addr} {out_6l : Nat} {out_6c : Nat} {s7p : Option Addr} {s7l : Nat} {s7c : Nat} {x8 : Int} {x9 : Int} (h : I t_5 out_6p out_6l out_6c s7p s7l s7c x8 x9 w) : Loop [.any, .slice, .slice, (.int .i64), (.int .i64)] (F7_L1 k) t_5 out_6p out_6l out_6c s7p s7l s7c x8 x9 w :=
  Loop_intro (ts := [.any, .slice, .slice, (.int .i64), (.int .i64)]) (s := (t_5, (out_6p, out_6l, out_6c), (s7p, s7l, s7c), x8, x9, ())) (fun s w => I s.1 s.2.1.1 s.2.1.2.1 s.2.1.2.2 s.2.2.1.1 s.2.2.1.2.1 s.2.2.1.2.2 s.2.2.2.1 s.2.2.2.2.1 w) (fun s w => μ s.1 s.2.1.1 s.2.1.2.1 s.2.1.2.2 s.2.2.1.1 s.2.2.1.2.1 s.2.2.1.2.2 s.2.2.2.1 s.2.2.2.2.1 w) h (fun s w h => hr s.1 s.2.1.1 s.2.1.2.1 s.2.1.2.2 s.2.2.1.1 s.2.2.1.2.1 s.2.2.1.2.2 s.2.2.2.1 s.2.2.2.2.1 w h)
def F7 (k : Value → W) (dims_1 : Int) (seed_2 : Int) (steps_3p : Option Addr) (steps_3l : Nat) (steps_3c : Nat) : W :=
 CallT Go.Proofs.Tryz.prog 15 [.int .u64 dims_1, .int .u64 (IntKind.wrap .u64 seed_2)] (.s (.one .any)) fun v4 =>
 Loop [.any, .slice, .slice, (.int .i64), (.int .i64)] (F7_L1 k) v4 none 0 0 steps_3p steps_3l steps_3c ((steps_3l : Nat) : Int) 0
theorem F7_eq (k : Value → W) (dims_1 : Int) (seed_2 : Int) (steps_3p : Option Addr) (steps_3l : Nat) (steps_3c : Nat) : compF Go.Proofs.Tryz.prog Go.Proofs.Tryz.f7 [(4, [(7, .any), (8, .slice), (15, .slice), (16, (.int .i64)), (17, (.int .i64))])] (Go.Proofs.Tryz.f7.body.getD .skip) [.int .u64 dims_1, .int .i64 seed_2, .slice steps_3p steps_3l steps_3c] k = F7 k dims_1 seed_2 steps_3p steps_3l steps_3c := by kernel_rfl
theorem F7_calls {dims_1 : Int} {seed_2 : Int} {steps_3p : Option Addr} {steps_3l : Nat} {steps_3c : Nat} {w : World} {R : Ending → World → Prop} (h : F7 (fun v w => R (.returned v) w) dims_1 seed_2 steps_3p steps_3l steps_3c w) : Calls Go.Proofs.Tryz.prog 7 #[.int .u64 dims_1, .int .i64 seed_2, .slice steps_3p steps_3l steps_3c] w R :=
  calls_of_compF noNum follows [(4, [(7, .any), (8, .slice), (15, .slice), (16, (.int .i64)), (17, (.int .i64))])] (f := 7) (fn := Go.Proofs.Tryz.f7) (body := Go.Proofs.Tryz.f7.body.getD .skip) (args := [.int .u64 dims_1, .int .i64 seed_2, .slice steps_3p steps_3l steps_3c]) rfl rfl (Nat.le_of_ble_eq_true rfl) ((congrFun (F7_eq _ dims_1 seed_2 steps_3p steps_3l steps_3c) w).mpr h)
theorem F7_call {dims_1 : Int} {seed_2 : Int} {steps_3p : Option Addr} {steps_3l : Nat} {steps_3c : Nat} {w : World} {g : Fn W (RTy.leaves (.s (.one .slice)))} (h : F7 (fun v => Back (.s (.one .slice)) g (.returned v)) dims_1 seed_2 steps_3p steps_3l steps_3c w) : CallT Go.Proofs.Tryz.prog 7 [.int .u64 dims_1, .int .i64 seed_2, .slice steps_3p steps_3l steps_3c] (.s (.one .slice)) g w := F7_calls h

/-! ## laws.rtBox -/
def F13_L1 (k : Value → W) (again16 : Int → Addr → Option Addr → Nat → Nat → Option Addr → Nat → Nat → Int → W) (dims_11 : Int) (m_12 : Addr) (low_13p : Option Addr) (low_13l : Nat) (low_13c : Nat) (high_14p : Option Addr) (high_14l : Nat) (high_14c : Nat) (i_15 : Int) : W :=
 BIf (decide (i_15 < dims_11)) (
  Req (0 ≤ addI .i64 1 i_15 ∧ addI .i64 1 i_15 < (8 : Int)) <|
  LoadT (.int .i8) (m_12.add ((addI .i64 1 i_15).toNat)) fun x17 =>
  Req (12 ≠ (0 : Int)) <|
  RawT Go.Proofs.Tryz.prog (Instr.buildSlice 28 1 [(0, .int .i64 (IntKind.wrap .i64 (remI x17 12)))].toArray) (.s (.one .slice)) fun s18p s18l s18c =>
  NextT Go.Proofs.Tryz.prog (builtin .append #[28, 28] 28 [false, false].toArray [.slice low_13p low_13l low_13c, .slice s18p s18l s18c].toArray) (.s (.one .slice)) fun s19p s19l s19c =>
  Drw <|
  Req (0 ≤ addI .i64 1 i_15 ∧ addI .i64 1 i_15 < (8 : Int)) <|
  LoadT (.int .i8) (m_12.add ((addI .i64 1 i_15).toNat)) fun x20 =>
  Req (12 ≠ (0 : Int)) <|
  Req (0 ≤ addI .i64 4 i_15 ∧ addI .i64 4 i_15 < (8 : Int)) <|
  LoadT (.int .i8) (m_12.add ((addI .i64 4 i_15).toNat)) fun x21 =>
  Req (16 ≠ (0 : Int)) <|
  RawT Go.Proofs.Tryz.prog (Instr.buildSlice 28 1 [(0, .int .i64 (addI .i64 (IntKind.wrap .i64 (remI x20 12)) (IntKind.wrap .i64 (remI (IntKind.wrap .u8 x21) 16))))].toArray) (.s (.one .slice)) fun s22p s22l s22c =>
  Chk1 (m_12.add ((addI .i64 4 i_15).toNat)) (.int .i8 x21) <|
  Chk1 (m_12.add ((addI .i64 1 i_15).toNat)) (.int .i8 x20) <|
  NextT Go.Proofs.Tryz.prog (builtin .append #[28, 28] 28 [false, false].toArray [.slice high_14p high_14l high_14c, .slice s22p s22l s22c].toArray) (.s (.one .slice)) fun s23p s23l s23c =>
  Chk1 (m_12.add ((addI .i64 4 i_15).toNat)) (.int .i8 x21) <|
  Chk1 (m_12.add ((addI .i64 1 i_15).toNat)) (.int .i8 x20) <|
  again16 dims_11 m_12 s19p s19l s19c s23p s23l s23c (addI .i64 i_15 1)) (
  k (.tuple #[.slice low_13p low_13l low_13c, .slice high_14p high_14l high_14c]))
theorem F13_L1_rule {k : Value → W} (I : Int → Addr → Option Addr → Nat → Nat → Option Addr → Nat → Nat → Int → W) (μ : Int → Addr → Option Addr → Nat → Nat → Option Addr → Nat → Nat → Int → World → Nat)
  (hr : ∀ (dims_11 : Int) (m_12 : Addr) (low_13p : Option Addr) (low_13l : Nat) (low_13c : Nat) (high_14p : Option Addr) (high_14l : Nat) (high_14c : Nat) (i_15 : Int) (w : World), I dims_11 m_12 low_13p low_13l low_13c high_14p high_14l high_14c i_15 w → F13_L1 k (fun dims_11' m_12' low_13p' low_13l' low_13c' high_14p' high_14l' high_14c' i_15' w' => I dims_11' m_12' low_13p' low_13l' low_13c' high_14p' high_14l' high_14c' i_15' w' ∧ μ dims_11' m_12' low_13p' low_13l' low_13c' high_14p' high_14l' high_14c' i_15' w' < μ dims_11 m_12 low_13p low_13l low_13c high_14p high_14l high_14c i_15 w) dims_11 m_12 low_13p low_13l low_13c high_14p high_14l high_14c i_15 w)
  {w : World} {dims_11 : Int} {m_12 : Addr} {low_13p : Option Addr} {low_13l : Nat} {low_13c : Nat} {high_14p : Option Addr} {high_14l : Nat} {high_14c : Nat} {i_15 : Int} (h : I dims_11 m_12 low_13p low_13l low_13c high_14p high_14l high_14c i_15 w) : Loop [(.int .i64), .addr, .slice, .slice, (.int .i64)] (F13_L1 k) dims_11 m_12 low_13p low_13l low_13c high_14p high_14l high_14c i_15 w :=
  Loop_intro (ts := [(.int .i64), .addr, .slice, .slice, (.int .i64)]) (s := (dims_11, m_12, (low_13p, low_13l, low_13c), (high_14p, high_14l, high_14c), i_15, ())) (fun s w => I s.1 s.2.1 s.2.2.1.1 s.2.2.1.2.1 s.2.2.1.2.2 s.2.2.2.1.1 s.2.2.2.1.2.1 s.2.2.2.1.2.2 s.2.2.2.2.1 w) (fun s w => μ s.1 s.2.1 s.2.2.1.1 s.2.2.1.2.1 s.2.2.1.2.2 s.2.2.2.1.1 s.2.2.2.1.2.1 s.2.2.2.1.2.2 s.2.2.2.2.1 w) h (fun s w h => hr s.1 s.2.1 s.2.2.1.1 s.2.2.1.2.1 s.2.2.1.2.2 s.2.2.2.1.1 s.2.2.2.1.2.1 s.2.2.2.1.2.2 s.2.2.2.2.1 w h)
def F13 (k : Value → W) (dims_1 : Int) (x2 : Int) (x3 : Int) (x4 : Int) (x5 : Int) (x6 : Int) (x7 : Int) (x8 : Int) (x9 : Int) : W :=
 New [.int .i8 x2, .int .i8 x3, .int .i8 x4, .int .i8 x5, .int .i8 x6, .int .i8 x7, .int .i8 x8, .int .i8 x9] 45 fun n10 =>
 Loop [(.int .i64), .addr, .slice, .slice, (.int .i64)] (F13_L1 k) dims_1 ⟨n10, 0, none⟩ none 0 0 none 0 0 0
theorem F13_eq (k : Value → W) (dims_1 : Int) (x2 : Int) (x3 : Int) (x4 : Int) (x5 : Int) (x6 : Int) (x7 : Int) (x8 : Int) (x9 : Int) : compF Go.Proofs.Tryz.prog Go.Proofs.Tryz.f13 [(3, [(0, (.int .i64)), (3, .addr), (6, .slice), (7, .slice), (8, (.int .i64))])] (Go.Proofs.Tryz.f13.body.getD .skip) [.int .i64 dims_1, .agg #[.int .i8 x2, .int .i8 x3, .int .i8 x4, .int .i8 x5, .int .i8 x6, .int .i8 x7, .int .i8 x8, .int .i8 x9]] k = F13 k dims_1 x2 x3 x4 x5 x6 x7 x8 x9 := by kernel_rfl
theorem F13_calls {dims_1 : Int} {x2 : Int} {x3 : Int} {x4 : Int} {x5 : Int} {x6 : Int} {x7 : Int} {x8 : Int} {x9 : Int} {w : World} {R : Ending → World → Prop} (h : F13 (fun v w => R (.returned v) w) dims_1 x2 x3 x4 x5 x6 x7 x8 x9 w) : Calls Go.Proofs.Tryz.prog 13 #[.int .i64 dims_1, .agg #[.int .i8 x2, .int .i8 x3, .int .i8 x4, .int .i8 x5, .int .i8 x6, .int .i8 x7, .int .i8 x8, .int .i8 x9]] w R :=
  calls_of_compF noNum follows [(3, [(0, (.int .i64)), (3, .addr), (6, .slice), (7, .slice), (8, (.int .i64))])] (f := 13) (fn := Go.Proofs.Tryz.f13) (body := Go.Proofs.Tryz.f13.body.getD .skip) (args := [.int .i64 dims_1, .agg #[.int .i8 x2, .int .i8 x3, .int .i8 x4, .int .i8 x5, .int .i8 x6, .int .i8 x7, .int .i8 x8, .int .i8 x9]]) rfl rfl (Nat.le_of_ble_eq_true rfl) ((congrFun (F13_eq _ dims_1 x2 x3 x4 x5 x6 x7 x8 x9) w).mpr h)
theorem F13_call {dims_1 : Int} {x2 : Int} {x3 : Int} {x4 : Int} {x5 : Int} {x6 : Int} {x7 : Int} {x8 : Int} {x9 : Int} {w : World} {g : Fn W (RTy.leaves (.tup [(.one .slice), (.one .slice)]))} (h : F13 (fun v => Back (.tup [(.one .slice), (.one .slice)]) g (.returned v)) dims_1 x2 x3 x4 x5 x6 x7 x8 x9 w) : CallT Go.Proofs.Tryz.prog 13 [.int .i64 dims_1, .agg #[.int .i8 x2, .int .i8 x3, .int .i8 x4, .int .i8 x5, .int .i8 x6, .int .i8 x7, .int .i8 x8, .int .i8 x9]] (.tup [(.one .slice), (.one .slice)]) g w := F13_calls h

/-! ## laws.rtDot -/
def F12_L1 (k : Value → W) (again19 : Int → Addr → Addr → Addr → Int → W) (dims_14 : Int) (m_15 : Addr) (a16 : Addr) (x_17 : Addr) (i_18 : Int) : W :=
 BIf (decide (i_18 < dims_14)) (
  Drw <|
  LoadT .slice x_17 fun s20p s20l s20c =>
  Req (0 ≤ addI .i64 1 i_18 ∧ addI .i64 1 i_18 < (8 : Int)) <|
  LoadT (.int .i8) (m_15.add ((addI .i64 1 i_18).toNat)) fun x21 =>
  Req (12 ≠ (0 : Int)) <|
  RawT Go.Proofs.Tryz.prog (Instr.buildSlice 28 1 [(0, .int .i64 (IntKind.wrap .i64 (remI x21 12)))].toArray) (.s (.one .slice)) fun s22p s22l s22c =>
  Chk1 (m_15.add ((addI .i64 1 i_18).toNat)) (.int .i8 x21) <|
  Chk1 x_17 (.slice s20p s20l s20c) <|
  NextT Go.Proofs.Tryz.prog (builtin .append #[28, 28] 28 [false, false].toArray [.slice s20p s20l s20c, .slice s22p s22l s22c].toArray) (.s (.one .slice)) fun s23p s23l s23c =>
  Chk1 (m_15.add ((addI .i64 1 i_18).toNat)) (.int .i8 x21) <|
  Store1 x_17 (.slice s23p s23l s23c) <|
  again19 dims_14 m_15 a16 x_17 (addI .i64 i_18 1)) (
  LoadT .slice (x_17.add 0) fun s24p s24l s24c =>
  LoadT (.int .i64) (x_17.add 1) fun x25 =>
  Store1 (a16.add 0) (.slice s24p s24l s24c) <|
  Store1 (a16.add 1) (.int .i64 x25) <|
  LoadT .slice (a16.add 0) fun s26p s26l s26c =>
  LoadT (.int .i64) (a16.add 1) fun x27 =>
  k (.agg #[.slice s26p s26l s26c, .int .i64 x27]))
theorem F12_L1_rule {k : Value → W} (I : Int → Addr → Addr → Addr → Int → W) (μ : Int → Addr → Addr → Addr → Int → World → Nat)
  (hr : ∀ (dims_14 : Int) (m_15 : Addr) (a16 : Addr) (x_17 : Addr) (i_18 : Int) (w : World), I dims_14 m_15 a16 x_17 i_18 w → F12_L1 k (fun dims_14' m_15' a16' x_17' i_18' w' => I dims_14' m_15' a16' x_17' i_18' w' ∧ μ dims_14' m_15' a16' x_17' i_18' w' < μ dims_14 m_15 a16 x_17 i_18 w) dims_14 m_15 a16 x_17 i_18 w)
  {w : World} {dims_14 : Int} {m_15 : Addr} {a16 : Addr} {x_17 : Addr} {i_18 : Int} (h : I dims_14 m_15 a16 x_17 i_18 w) : Loop [(.int .i64), .addr, .addr, .addr, (.int .i64)] (F12_L1 k) dims_14 m_15 a16 x_17 i_18 w :=
  Loop_intro (ts := [(.int .i64), .addr, .addr, .addr, (.int .i64)]) (s := (dims_14, m_15, a16, x_17, i_18, ())) (fun s w => I s.1 s.2.1 s.2.2.1 s.2.2.2.1 s.2.2.2.2.1 w) (fun s w => μ s.1 s.2.1 s.2.2.1 s.2.2.2.1 s.2.2.2.2.1 w) h (fun s w h => hr s.1 s.2.1 s.2.2.1 s.2.2.2.1 s.2.2.2.2.1 w h)
def F12 (k : Value → W) (dims_1 : Int) (x2 : Int) (x3 : Int) (x4 : Int) (x5 : Int) (x6 : Int) (x7 : Int) (x8 : Int) (x9 : Int) (val_10 : Int) : W :=
 New [.int .i8 x2, .int .i8 x3, .int .i8 x4, .int .i8 x5, .int .i8 x6, .int .i8 x7, .int .i8 x8, .int .i8 x9] 45 fun n11 =>
 New [.slice none 0 0, .int .i64 0] 47 fun n12 =>
 New [.slice none 0 0, .int .i64 0] 47 fun n13 =>
 Store1 ⟨n13, 0, none⟩ (.slice none 0 0) <|
 Store1 ⟨n13, 1, none⟩ (.int .i64 val_10) <|
 Loop [(.int .i64), .addr, .addr, .addr, (.int .i64)] (F12_L1 k) dims_1 ⟨n11, 0, none⟩ ⟨n12, 0, none⟩ ⟨n13, 0, none⟩ 0
theorem F12_eq (k : Value → W) (dims_1 : Int) (x2 : Int) (x3 : Int) (x4 : Int) (x5 : Int) (x6 : Int) (x7 : Int) (x8 : Int) (x9 : Int) (val_10 : Int) : compF Go.Proofs.Tryz.prog Go.Proofs.Tryz.f12 [(3, [(0, (.int .i64)), (4, .addr), (6, .addr), (7, .addr), (8, (.int .i64))])] (Go.Proofs.Tryz.f12.body.getD .skip) [.int .i64 dims_1, .agg #[.int .i8 x2, .int .i8 x3, .int .i8 x4, .int .i8 x5, .int .i8 x6, .int .i8 x7, .int .i8 x8, .int .i8 x9], .int .i64 val_10] k = F12 k dims_1 x2 x3 x4 x5 x6 x7 x8 x9 val_10 := by kernel_rfl
theorem F12_calls {dims_1 : Int} {x2 : Int} {x3 : Int} {x4 : Int} {x5 : Int} {x6 : Int} {x7 : Int} {x8 : Int} {x9 : Int} {val_10 : Int} {w : World} {R : Ending → World → Prop} (h : F12 (fun v w => R (.returned v) w) dims_1 x2 x3 x4 x5 x6 x7 x8 x9 val_10 w) : Calls Go.Proofs.Tryz.prog 12 #[.int .i64 dims_1, .agg #[.int .i8 x2, .int .i8 x3, .int .i8 x4, .int .i8 x5, .int .i8 x6, .int .i8 x7, .int .i8 x8, .int .i8 x9], .int .i64 val_10] w R :=
  calls_of_compF noNum follows [(3, [(0, (.int .i64)), (4, .addr), (6, .addr), (7, .addr), (8, (.int .i64))])] (f := 12) (fn := Go.Proofs.Tryz.f12) (body := Go.Proofs.Tryz.f12.body.getD .skip) (args := [.int .i64 dims_1, .agg #[.int .i8 x2, .int .i8 x3, .int .i8 x4, .int .i8 x5, .int .i8 x6, .int .i8 x7, .int .i8 x8, .int .i8 x9], .int .i64 val_10]) rfl rfl (Nat.le_of_ble_eq_true rfl) ((congrFun (F12_eq _ dims_1 x2 x3 x4 x5 x6 x7 x8 x9 val_10) w).mpr h)
theorem F12_call {dims_1 : Int} {x2 : Int} {x3 : Int} {x4 : Int} {x5 : Int} {x6 : Int} {x7 : Int} {x8 : Int} {x9 : Int} {val_10 : Int} {w : World} {g : Fn W (RTy.leaves (.s (.agg [.slice, (.int .i64)])))} (h : F12 (fun v => Back (.s (.agg [.slice, (.int .i64)])) g (.returned v)) dims_1 x2 x3 x4 x5 x6 x7 x8 x9 val_10 w) : CallT Go.Proofs.Tryz.prog 12 [.int .i64 dims_1, .agg #[.int .i8 x2, .int .i8 x3, .int .i8 x4, .int .i8 x5, .int .i8 x6, .int .i8 x7, .int .i8 x8, .int .i8 x9], .int .i64 val_10] (.s (.agg [.slice, (.int .i64)])) g w := F12_calls h

/-! ## laws.rtIn -/
def F11 (k : Value → W) (s1p : Option Addr) (s1l : Nat) (s1c : Nat) (x2 : Int) : W :=
 New [.slice s1p s1l s1c, .int .i64 x2] 47 fun n3 =>
 New [.slice none 0 0, .int .i64 0] 42 fun n4 =>
 Drw <|
 LoadT .slice ⟨n3, 0, none⟩ fun s5p s5l s5c =>
 LoadT (.int .i64) ⟨n3, 1, none⟩ fun x6 =>
 RawT Go.Proofs.Tryz.prog (Instr.buildSlice 28 0 [].toArray) (.s (.one .slice)) fun s7p s7l s7c =>
 Chk1 ⟨n3, 1, none⟩ (.int .i64 x6) <|
 Chk1 ⟨n3, 0, none⟩ (.slice s5p s5l s5c) <|
 NextT Go.Proofs.Tryz.prog (builtin .append #[28, 28] 28 [false, false].toArray [.slice s7p s7l s7c, .slice s5p s5l s5c].toArray) (.s (.one .slice)) fun s8p s8l s8c =>
 Chk1 ⟨n3, 1, none⟩ (.int .i64 x6) <|
 Store1 ⟨n4, 0, none⟩ (.slice s8p s8l s8c) <|
 Store1 ⟨n4, 1, none⟩ (.int .i64 x6) <|
 LoadT .slice ⟨n4, 0, none⟩ fun s9p s9l s9c =>
 LoadT (.int .i64) ⟨n4, 1, none⟩ fun x10 =>
 k (.agg #[.slice s9p s9l s9c, .int .i64 x10])
theorem F11_eq (k : Value → W) (s1p : Option Addr) (s1l : Nat) (s1c : Nat) (x2 : Int) : compF Go.Proofs.Tryz.prog Go.Proofs.Tryz.f11 [] (Go.Proofs.Tryz.f11.body.getD .skip) [.agg #[.slice s1p s1l s1c, .int .i64 x2]] k = F11 k s1p s1l s1c x2 := by kernel_rfl
theorem F11_calls {s1p : Option Addr} {s1l : Nat} {s1c : Nat} {x2 : Int} {w : World} {R : Ending → World → Prop} (h : F11 (fun v w => R (.returned v) w) s1p s1l s1c x2 w) : Calls Go.Proofs.Tryz.prog 11 #[.agg #[.slice s1p s1l s1c, .int .i64 x2]] w R :=
  calls_of_compF noNum follows [] (f := 11) (fn := Go.Proofs.Tryz.f11) (body := Go.Proofs.Tryz.f11.body.getD .skip) (args := [.agg #[.slice s1p s1l s1c, .int .i64 x2]]) rfl rfl (Nat.le_of_ble_eq_true rfl) ((congrFun (F11_eq _ s1p s1l s1c x2) w).mpr h)
theorem F11_call {s1p : Option Addr} {s1l : Nat} {s1c : Nat} {x2 : Int} {w : World} {g : Fn W (RTy.leaves (.s (.agg [.slice, (.int .i64)])))} (h : F11 (fun v => Back (.s (.agg [.slice, (.int .i64)])) g (.returned v)) s1p s1l s1c x2 w) : CallT Go.Proofs.Tryz.prog 11 [.agg #[.slice s1p s1l s1c, .int .i64 x2]] (.s (.agg [.slice, (.int .i64)])) g w := F11_calls h

/-! ## laws.rtSteps -/
def F4_J1 (k : Value → W) (again10 : Int → Option Addr → Nat → Nat → Option Addr → Nat → Nat → Option Addr → Nat → Nat → Int → Int → W) (dims_40 : Int) (moves_41p : Option Addr) (moves_41l : Nat) (moves_41c : Nat) (kinds_42p : Option Addr) (kinds_42l : Nat) (kinds_42c : Nat) (steps_43p : Option Addr) (steps_43l : Nat) (steps_43c : Nat) (n_44 : Int) (i_45 : Int) (m_46 : Addr) (k_47 : Int) (x_48 : Addr) (b49 : Bool) : W :=
 BIf b49 (
  Drw <|
  NN steps_43p fun a50 =>
  Req (0 ≤ subI .i64 ((steps_43l : Nat) : Int) 1 ∧ subI .i64 ((steps_43l : Nat) : Int) 1 < ((steps_43l : Nat) : Int)) <|
  LoadT .slice ((a50.add ((subI .i64 ((steps_43l : Nat) : Int) 1).toNat * 9)).add 2) fun s51p s51l s51c =>
  LoadT .slice (x_48.add 0) fun s52p s52l s52c =>
  LoadT (.int .i64) (x_48.add 1) fun x53 =>
  RawT Go.Proofs.Tryz.prog (Instr.buildSlice 27 1 [(0, .agg #[.slice s52p s52l s52c, .int .i64 x53])].toArray) (.s (.one .slice)) fun s54p s54l s54c =>
  Chk1 ((a50.add ((subI .i64 ((steps_43l : Nat) : Int) 1).toNat * 9)).add 2) (.slice s51p s51l s51c) <|
  NextT Go.Proofs.Tryz.prog (builtin .append #[27, 27] 27 [false, false].toArray [.slice s51p s51l s51c, .slice s54p s54l s54c].toArray) (.s (.one .slice)) fun s55p s55l s55c =>
  Chk1 (x_48.add 0) (.slice s52p s52l s52c) <|
  Chk1 (x_48.add 1) (.int .i64 x53) <|
  NN steps_43p fun a56 =>
  Req (0 ≤ subI .i64 ((steps_43l : Nat) : Int) 1 ∧ subI .i64 ((steps_43l : Nat) : Int) 1 < ((steps_43l : Nat) : Int)) <|
  Store1 ((a56.add ((subI .i64 ((steps_43l : Nat) : Int) 1).toNat * 9)).add 2) (.slice s55p s55l s55c) <|
  again10 dims_40 moves_41p moves_41l moves_41c kinds_42p kinds_42l kinds_42c steps_43p steps_43l steps_43c n_44 (addI .i64 i_45 1)) (
  LoadT .slice (x_48.add 0) fun s57p s57l s57c =>
  LoadT (.int .i64) (x_48.add 1) fun x58 =>
  RawT Go.Proofs.Tryz.prog (Instr.buildSlice 27 1 [(0, .agg #[.slice s57p s57l s57c, .int .i64 x58])].toArray) (.s (.one .slice)) fun s59p s59l s59c =>
  Req (0 ≤ (7 : Int) ∧ (7 : Int) < (8 : Int)) <|
  LoadT (.int .i8) (m_46.add ((7 : Int).toNat)) fun x60 =>
  Req (8 ≠ (0 : Int)) <|
  New [.int .i64 0, .int .i64 0, .slice none 0 0, .slice none 0 0, .slice none 0 0, .int .u64 0, .int .i64 0, .int .i64 0, .int .i64 0] 31 fun n61 =>
  Store1 ⟨n61, 0, none⟩ (.int .i64 k_47) <|
  Store1 ⟨n61, 1, none⟩ (.int .i64 0) <|
  Store1 ⟨n61, 2, none⟩ (.slice s59p s59l s59c) <|
  Store1 ⟨n61, 3, none⟩ (.slice none 0 0) <|
  Store1 ⟨n61, 4, none⟩ (.slice none 0 0) <|
  Store1 ⟨n61, 5, none⟩ (.int .u64 0) <|
  Store1 ⟨n61, 6, none⟩ (.int .i64 0) <|
  Store1 ⟨n61, 7, none⟩ (.int .i64 0) <|
  Store1 ⟨n61, 8, none⟩ (.int .i64 (IntKind.wrap .i64 (remI (IntKind.wrap .u8 x60) 8))) <|
  LoadT (.int .i8) (m_46.add 0) fun x62 =>
  LoadT (.int .i8) (m_46.add 1) fun x63 =>
  LoadT (.int .i8) (m_46.add 2) fun x64 =>
  LoadT (.int .i8) (m_46.add 3) fun x65 =>
  LoadT (.int .i8) (m_46.add 4) fun x66 =>
  LoadT (.int .i8) (m_46.add 5) fun x67 =>
  LoadT (.int .i8) (m_46.add 6) fun x68 =>
  LoadT (.int .i8) (m_46.add 7) fun x69 =>
  CallT Go.Proofs.Tryz.prog 13 [.int .i64 dims_40, .agg #[.int .i8 x62, .int .i8 x63, .int .i8 x64, .int .i8 x65, .int .i8 x66, .int .i8 x67, .int .i8 x68, .int .i8 x69]] (.tup [(.one .slice), (.one .slice)]) fun s70p s70l s70c s71p s71l s71c =>
  Store1 ⟨n61, 3, none⟩ (.slice s70p s70l s70c) <|
  Store1 ⟨n61, 4, none⟩ (.slice s71p s71l s71c) <|
  LoadT (.int .i64) ⟨n61, 0, none⟩ fun x72 =>
  LoadT (.int .i64) ⟨n61, 1, none⟩ fun x73 =>
  LoadT .slice ⟨n61, 2, none⟩ fun s74p s74l s74c =>
  LoadT .slice ⟨n61, 3, none⟩ fun s75p s75l s75c =>
  LoadT .slice ⟨n61, 4, none⟩ fun s76p s76l s76c =>
  LoadT (.int .u64) ⟨n61, 5, none⟩ fun x77 =>
  LoadT (.int .i64) ⟨n61, 6, none⟩ fun x78 =>
  LoadT (.int .i64) ⟨n61, 7, none⟩ fun x79 =>
  LoadT (.int .i64) ⟨n61, 8, none⟩ fun x80 =>
  RawT Go.Proofs.Tryz.prog (Instr.buildSlice 23 1 [(0, .agg #[.int .i64 x72, .int .i64 x73, .slice s74p s74l s74c, .slice s75p s75l s75c, .slice s76p s76l s76c, .int .u64 x77, .int .i64 x78, .int .i64 x79, .int .i64 x80])].toArray) (.s (.one .slice)) fun s81p s81l s81c =>
  NextT Go.Proofs.Tryz.prog (builtin .append #[23, 23] 23 [false, false].toArray [.slice steps_43p steps_43l steps_43c, .slice s81p s81l s81c].toArray) (.s (.one .slice)) fun s82p s82l s82c =>
  again10 dims_40 moves_41p moves_41l moves_41c kinds_42p kinds_42l kinds_42c s82p s82l s82c n_44 (addI .i64 i_45 1))
def F4_J2 (k : Value → W) (steps_83p : Option Addr) (steps_83l : Nat) (steps_83c : Nat) : W :=
 RawT Go.Proofs.Tryz.prog (Instr.buildSlice 23 1 [(0, .agg #[.int .i64 6, .int .i64 0, .slice none 0 0, .slice none 0 0, .slice none 0 0, .int .u64 0, .int .i64 0, .int .i64 0, .int .i64 0])].toArray) (.s (.one .slice)) fun s84p s84l s84c =>
 NextT Go.Proofs.Tryz.prog (builtin .append #[23, 23] 23 [false, false].toArray [.slice steps_83p steps_83l steps_83c, .slice s84p s84l s84c].toArray) (.s (.one .slice)) fun s85p s85l s85c =>
 k (.slice s85p s85l s85c)
def F4_L1 (k : Value → W) (again10 : Int → Option Addr → Nat → Nat → Option Addr → Nat → Nat → Option Addr → Nat → Nat → Int → Int → W) (dims_4 : Int) (moves_5p : Option Addr) (moves_5l : Nat) (moves_5c : Nat) (kinds_6p : Option Addr) (kinds_6l : Nat) (kinds_6c : Nat) (steps_7p : Option Addr) (steps_7l : Nat) (steps_7c : Nat) (n_8 : Int) (i_9 : Int) : W :=
 BIf (decide (i_9 < ((moves_5l : Nat) : Int))) (
  BIf (decide (i_9 < 60)) (
   NN moves_5p fun a11 =>
   Req (0 ≤ i_9 ∧ i_9 < ((moves_5l : Nat) : Int)) <|
   LoadT (.int .i8) ((a11.add (i_9.toNat * 8)).add 0) fun x12 =>
   LoadT (.int .i8) ((a11.add (i_9.toNat * 8)).add 1) fun x13 =>
   LoadT (.int .i8) ((a11.add (i_9.toNat * 8)).add 2) fun x14 =>
   LoadT (.int .i8) ((a11.add (i_9.toNat * 8)).add 3) fun x15 =>
   LoadT (.int .i8) ((a11.add (i_9.toNat * 8)).add 4) fun x16 =>
   LoadT (.int .i8) ((a11.add (i_9.toNat * 8)).add 5) fun x17 =>
   LoadT (.int .i8) ((a11.add (i_9.toNat * 8)).add 6) fun x18 =>
   LoadT (.int .i8) ((a11.add (i_9.toNat * 8)).add 7) fun x19 =>
   New [.int .i8 0, .int .i8 0, .int .i8 0, .int .i8 0, .int .i8 0, .int .i8 0, .int .i8 0, .int .i8 0] 45 fun n20 =>
   Store1 ⟨n20, 0, none⟩ (.int .i8 x12) <|
   Store1 ⟨n20, 1, none⟩ (.int .i8 x13) <|
   Store1 ⟨n20, 2, none⟩ (.int .i8 x14) <|
   Store1 ⟨n20, 3, none⟩ (.int .i8 x15) <|
   Store1 ⟨n20, 4, none⟩ (.int .i8 x16) <|
   Store1 ⟨n20, 5, none⟩ (.int .i8 x17) <|
   Store1 ⟨n20, 6, none⟩ (.int .i8 x18) <|
   Store1 ⟨n20, 7, none⟩ (.int .i8 x19) <|
   Req (0 ≤ (0 : Int) ∧ (0 : Int) < (8 : Int)) <|
   LoadT (.int .i8) ((⟨n20, 0, none⟩ : Addr).add ((0 : Int).toNat)) fun x21 =>
   Req (((kinds_6l : Nat) : Int) ≠ (0 : Int)) <|
   NN kinds_6p fun a22 =>
   Req (0 ≤ remI (IntKind.wrap .i64 (IntKind.wrap .u8 x21)) ((kinds_6l : Nat) : Int) ∧ remI (IntKind.wrap .i64 (IntKind.wrap .u8 x21)) ((kinds_6l : Nat) : Int) < ((kinds_6l : Nat) : Int)) <|
   LoadT (.int .i64) (a22.add ((remI (IntKind.wrap .i64 (IntKind.wrap .u8 x21)) ((kinds_6l : Nat) : Int)).toNat)) fun x23 =>
   LoadT (.int .i8) ⟨n20, 0, none⟩ fun x24 =>
   LoadT (.int .i8) ⟨n20, 1, none⟩ fun x25 =>
   LoadT (.int .i8) ⟨n20, 2, none⟩ fun x26 =>
   LoadT (.int .i8) ⟨n20, 3, none⟩ fun x27 =>
   LoadT (.int .i8) ⟨n20, 4, none⟩ fun x28 =>
   LoadT (.int .i8) ⟨n20, 5, none⟩ fun x29 =>
   LoadT (.int .i8) ⟨n20, 6, none⟩ fun x30 =>
   LoadT (.int .i8) ⟨n20, 7, none⟩ fun x31 =>
   CallT Go.Proofs.Tryz.prog 12 [.int .i64 dims_4, .agg #[.int .i8 x24, .int .i8 x25, .int .i8 x26, .int .i8 x27, .int .i8 x28, .int .i8 x29, .int .i8 x30, .int .i8 x31], .int .i64 (addI .i64 n_8 1)] (.s (.agg [.slice, (.int .i64)])) fun s32p s32l s32c x33 =>
   CallT Go.Proofs.Tryz.prog 11 [.agg #[.slice s32p s32l s32c, .int .i64 x33]] (.s (.agg [.slice, (.int .i64)])) fun s34p s34l s34c x35 =>
   New [.slice none 0 0, .int .i64 0] 42 fun n36 =>
   Store1 ⟨n36, 0, none⟩ (.slice s34p s34l s34c) <|
   Store1 ⟨n36, 1, none⟩ (.int .i64 x35) <|
   Req (0 ≤ (0 : Int) ∧ (0 : Int) < (8 : Int)) <|
   LoadT (.int .i8) ((⟨n20, 0, none⟩ : Addr).add ((0 : Int).toNat)) fun x37 =>
   Req (64 ≠ (0 : Int)) <|
   BIf (decide ((quoI .u8 (IntKind.wrap .u8 x37) 64) > 1)) (
    BIf (decide (((steps_7l : Nat) : Int) > 0)) (
     NN steps_7p fun a38 =>
     Req (0 ≤ subI .i64 ((steps_7l : Nat) : Int) 1 ∧ subI .i64 ((steps_7l : Nat) : Int) 1 < ((steps_7l : Nat) : Int)) <|
     LoadT (.int .i64) (a38.add ((subI .i64 ((steps_7l : Nat) : Int) 1).toNat * 9)) fun x39 =>
     BIf (x39 == x23) (
      F4_J1 k again10 dims_4 moves_5p moves_5l moves_5c kinds_6p kinds_6l kinds_6c steps_7p steps_7l steps_7c (addI .i64 n_8 1) i_9 ⟨n20, 0, none⟩ x23 ⟨n36, 0, none⟩ (decide (x23 ≤ 3))) (
      F4_J1 k again10 dims_4 moves_5p moves_5l moves_5c kinds_6p kinds_6l kinds_6c steps_7p steps_7l steps_7c (addI .i64 n_8 1) i_9 ⟨n20, 0, none⟩ x23 ⟨n36, 0, none⟩ false)) (
     F4_J1 k again10 dims_4 moves_5p moves_5l moves_5c kinds_6p kinds_6l kinds_6c steps_7p steps_7l steps_7c (addI .i64 n_8 1) i_9 ⟨n20, 0, none⟩ x23 ⟨n36, 0, none⟩ false)) (
    F4_J1 k again10 dims_4 moves_5p moves_5l moves_5c kinds_6p kinds_6l kinds_6c steps_7p steps_7l steps_7c (addI .i64 n_8 1) i_9 ⟨n20, 0, none⟩ x23 ⟨n36, 0, none⟩ false)) (
   F4_J2 k steps_7p steps_7l steps_7c)) (
  F4_J2 k steps_7p steps_7l steps_7c)
theorem F4_L1_rule {k : Value → W} (I : Int → Option Addr → Nat → Nat → Option Addr → Nat → Nat → Option Addr → Nat → Nat → Int → Int → W) (μ : Int → Option Addr → Nat → Nat → Option Addr → Nat → Nat → Option Addr → Nat → Nat → Int → Int → World → Nat)
  (hr : ∀ (dims_4 : Int) (moves_5p : Option Addr) (moves_5l : Nat) (moves_5c : Nat) (kinds_6p : Option Addr) (kinds_6l : Nat) (kinds_6c : Nat) (steps_7p : Option Addr) (steps_7l : Nat) (steps_7c : Nat) (n_8 : Int) (i_9 : Int) (w : World), I dims_4 moves_5p moves_5l moves_5c kinds_6p kinds_6l kinds_6c steps_7p steps_7l steps_7c n_8 i_9 w → F4_L1 k (fun dims_4' moves_5p' moves_5l' moves_5c' kinds_6p' kinds_6l' kinds_6c' steps_7p' steps_7l' steps_7c' n_8' i_9' w' => I dims_4' moves_5p' moves_5l' moves_5c' kinds_6p' kinds_6l' kinds_6c' steps_7p' steps_7l' steps_7c' n_8' i_9' w' ∧ μ dims_4' moves_5p' moves_5l' moves_5c' kinds_6p' kinds_6l' kinds_6c' steps_7p' steps_7l' steps_7c' n_8' i_9' w' < μ dims_4 moves_5p moves_5l moves_5c kinds_6p kinds_6l kinds_6c steps_7p steps_7l steps_7c n_8 i_9 w) dims_4 moves_5p moves_5l moves_5c kinds_6p kinds_6l kinds_6c steps_7p steps_7l steps_7c n_8 i_9 w)
  {w : World} {dims_4 : Int} {moves_5p : Option Addr} {moves_5l : Nat} {moves_5c : Nat} {kinds_6p : Option Addr} {kinds_6l : Nat} {kinds_6c : Nat} {steps_7p : Option Addr} {steps_7l : Nat} {steps_7c : Nat} {n_8 : Int} {i_9 : Int} (h : I dims_4 moves_5p moves_5l moves_5c kinds_6p kinds_6l kinds_6c steps_7p steps_7l steps_7c n_8 i_9 w) : Loop [(.int .i64), .slice, .slice, .slice, (.int .i64), (.int .i64)] (F4_L1 k) dims_4 moves_5p moves_5l moves_5c kinds_6p kinds_6l kinds_6c steps_7p steps_7l steps_7c n_8 i_9 w :=
  Loop_intro (ts := [(.int .i64), .slice, .slice, .slice, (.int .i64), (.int .i64)]) (s := (dims_4, (moves_5p, moves_5l, moves_5c), (kinds_6p, kinds_6l, kinds_6c), (steps_7p, steps_7l, steps_7c), n_8, i_9, ())) (fun s w => I s.1 s.2.1.1 s.2.1.2.1 s.2.1.2.2 s.2.2.1.1 s.2.2.1.2.1 s.2.2.1.2.2 s.2.2.2.1.1 s.2.2.2.1.2.1 s.2.2.2.1.2.2 s.2.2.2.2.1 s.2.2.2.2.2.1 w) (fun s w => μ s.1 s.2.1.1 s.2.1.2.1 s.2.1.2.2 s.2.2.1.1 s.2.2.1.2.1 s.2.2.1.2.2 s.2.2.2.1.1 s.2.2.2.1.2.1 s.2.2.2.1.2.2 s.2.2.2.2.1 s.2.2.2.2.2.1 w) h (fun s w h => hr s.1 s.2.1.1 s.2.1.2.1 s.2.1.2.2 s.2.2.1.1 s.2.2.1.2.1 s.2.2.1.2.2 s.2.2.2.1.1 s.2.2.2.1.2.1 s.2.2.2.1.2.2 s.2.2.2.2.1 s.2.2.2.2.2.1 w h)
def F4 (k : Value → W) (dims_1 : Int) (moves_2p : Option Addr) (moves_2l : Nat) (moves_2c : Nat) (kinds_3p : Option Addr) (kinds_3l : Nat) (kinds_3c : Nat) : W :=
 Loop [(.int .i64), .slice, .slice, .slice, (.int .i64), (.int .i64)] (F4_L1 k) dims_1 moves_2p moves_2l moves_2c kinds_3p kinds_3l kinds_3c none 0 0 0 0
theorem F4_eq (k : Value → W) (dims_1 : Int) (moves_2p : Option Addr) (moves_2l : Nat) (moves_2c : Nat) (kinds_3p : Option Addr) (kinds_3l : Nat) (kinds_3c : Nat) : compF Go.Proofs.Tryz.prog Go.Proofs.Tryz.f4 [(4, [(0, (.int .i64)), (1, .slice), (2, .slice), (7, .slice), (8, (.int .i64)), (9, (.int .i64))])] (Go.Proofs.Tryz.f4.body.getD .skip) [.int .i64 dims_1, .slice moves_2p moves_2l moves_2c, .slice kinds_3p kinds_3l kinds_3c] k = F4 k dims_1 moves_2p moves_2l moves_2c kinds_3p kinds_3l kinds_3c := by kernel_rfl
theorem F4_calls {dims_1 : Int} {moves_2p : Option Addr} {moves_2l : Nat} {moves_2c : Nat} {kinds_3p : Option Addr} {kinds_3l : Nat} {kinds_3c : Nat} {w : World} {R : Ending → World → Prop} (h : F4 (fun v w => R (.returned v) w) dims_1 moves_2p moves_2l moves_2c kinds_3p kinds_3l kinds_3c w) : Calls Go.Proofs.Tryz.prog 4 #[.int .i64 dims_1, .slice moves_2p moves_2l moves_2c, .slice kinds_3p kinds_3l kinds_3c] w R :=
  calls_of_compF noNum follows [(4, [(0, (.int .i64)), (1, .slice), (2, .slice), (7, .slice), (8, (.int .i64)), (9, (.int .i64))])] (f := 4) (fn := Go.Proofs.Tryz.f4) (body := Go.Proofs.Tryz.f4.body.getD .skip) (args := [.int .i64 dims_1, .slice moves_2p moves_2l moves_2c, .slice kinds_3p kinds_3l kinds_3c]) rfl rfl (Nat.le_of_ble_eq_true rfl) ((congrFun (F4_eq _ dims_1 moves_2p moves_2l moves_2c kinds_3p kinds_3l kinds_3c) w).mpr h)
theorem F4_call {dims_1 : Int} {moves_2p : Option Addr} {moves_2l : Nat} {moves_2c : Nat} {kinds_3p : Option Addr} {kinds_3l : Nat} {kinds_3c : Nat} {w : World} {g : Fn W (RTy.leaves (.s (.one .slice)))} (h : F4 (fun v => Back (.s (.one .slice)) g (.returned v)) dims_1 moves_2p moves_2l moves_2c kinds_3p kinds_3l kinds_3c w) : CallT Go.Proofs.Tryz.prog 4 [.int .i64 dims_1, .slice moves_2p moves_2l moves_2c, .slice kinds_3p kinds_3l kinds_3c] (.s (.one .slice)) g w := F4_calls h

/-! ## laws.srMoves -/
def F5_L2 (k : Value → W) (again5 : Option Addr → Nat → Nat → Option Addr → Nat → Nat → Int → W) (again21 : Option Addr → Nat → Nat → Option Addr → Nat → Nat → Int → Addr → Int → W) (moves_16p : Option Addr) (moves_16l : Nat) (moves_16c : Nat) (out_17p : Option Addr) (out_17l : Nat) (out_17c : Nat) (i_18 : Int) (m_19 : Addr) (k_20 : Int) : W :=
 BIf (decide (k_20 < 4)) (
  Req (0 ≤ k_20 ∧ k_20 < (8 : Int)) <|
  LoadT (.int .i8) (m_19.add k_20.toNat) fun x22 =>
  Req (0 ≤ k_20 ∧ k_20 < (8 : Int)) <|
  Store1 (m_19.add k_20.toNat) (.int .i8 (andI .i8 x22 127)) <|
  again21 moves_16p moves_16l moves_16c out_17p out_17l out_17c i_18 m_19 (addI .i64 k_20 1)) (
  LoadT (.int .i8) (m_19.add 0) fun x23 =>
  LoadT (.int .i8) (m_19.add 1) fun x24 =>
  LoadT (.int .i8) (m_19.add 2) fun x25 =>
  LoadT (.int .i8) (m_19.add 3) fun x26 =>
  LoadT (.int .i8) (m_19.add 4) fun x27 =>
  LoadT (.int .i8) (m_19.add 5) fun x28 =>
  LoadT (.int .i8) (m_19.add 6) fun x29 =>
  LoadT (.int .i8) (m_19.add 7) fun x30 =>
  RawT Go.Proofs.Tryz.prog (Instr.buildSlice 22 1 [(0, .agg #[.int .i8 x23, .int .i8 x24, .int .i8 x25, .int .i8 x26, .int .i8 x27, .int .i8 x28, .int .i8 x29, .int .i8 x30])].toArray) (.s (.one .slice)) fun s31p s31l s31c =>
  NextT Go.Proofs.Tryz.prog (builtin .append #[22, 22] 22 [false, false].toArray [.slice out_17p out_17l out_17c, .slice s31p s31l s31c].toArray) (.s (.one .slice)) fun s32p s32l s32c =>
  again5 moves_16p moves_16l moves_16c s32p s32l s32c (addI .i64 i_18 1))
theorem F5_L2_rule {k : Value → W} {again5 : Option Addr → Nat → Nat → Option Addr → Nat → Nat → Int → W} (I : Option Addr → Nat → Nat → Option Addr → Nat → Nat → Int → Addr → Int → W) (μ : Option Addr → Nat → Nat → Option Addr → Nat → Nat → Int → Addr → Int → World → Nat)
  (hr : ∀ (moves_16p : Option Addr) (moves_16l : Nat) (moves_16c : Nat) (out_17p : Option Addr) (out_17l : Nat) (out_17c : Nat) (i_18 : Int) (m_19 : Addr) (k_20 : Int) (w : World), I moves_16p moves_16l moves_16c out_17p out_17l out_17c i_18 m_19 k_20 w → F5_L2 k again5 (fun moves_16p' moves_16l' moves_16c' out_17p' out_17l' out_17c' i_18' m_19' k_20' w' => I moves_16p' moves_16l' moves_16c' out_17p' out_17l' out_17c' i_18' m_19' k_20' w' ∧ μ moves_16p' moves_16l' moves_16c' out_17p' out_17l' out_17c' i_18' m_19' k_20' w' < μ moves_16p moves_16l moves_16c out_17p out_17l out_17c i_18 m_19 k_20 w) moves_16p moves_16l moves_16c out_17p out_17l out_17c i_18 m_19 k_20 w)
  {w : World} {moves_16p : Option Addr} {moves_16l : Nat} {moves_16c : Nat} {out_17p : Option Addr} {out_17l : Nat} {out_17c : Nat} {i_18 : Int} {m_19 : Addr} {k_20 : Int} (h : I moves_16p moves_16l moves_16c out_17p out_17l out_17c i_18 m_19 k_20 w) : Loop [.slice, .slice, (.int .i64), .addr, (.int .i64)] (F5_L2 k again5) moves_16p moves_16l moves_16c out_17p out_17l out_17c i_18 m_19 k_20 w :=
  Loop_intro (ts := [.slice, .slice, (.int .i64), .addr, (.int .i64)]) (s := ((moves_16p, moves_16l, moves_16c), (out_17p, out_17l, out_17c), i_18, m_19, k_20, ())) (fun s w => I s.1.1 s.1.2.1 s.1.2.2 s.2.1.1 s.2.1.2.1 s.2.1.2.2 s.2.2.1 s.2.2.2.1 s.2.2.2.2.1 w) (fun s w => μ s.1.1 s.1.2.1 s.1.2.2 s.2.1.1 s.2.1.2.1 s.2.1.2.2 s.2.2.1 s.2.2.2.1 s.2.2.2.2.1 w) h (fun s w h => hr s.1.1 s.1.2.1 s.1.2.2 s.2.1.1 s.2.1.2.1 s.2.1.2.2 s.2.2.1 s.2.2.2.1 s.2.2.2.2.1 w h)
def F5_L1 (k : Value → W) (again5 : Option Addr → Nat → Nat → Option Addr → Nat → Nat → Int → W) (moves_2p : Option Addr) (moves_2l : Nat) (moves_2c : Nat) (out_3p : Option Addr) (out_3l : Nat) (out_3c : Nat) (i_4 : Int) : W :=
 BIf (decide (i_4 < ((moves_2l : Nat) : Int))) (
  NN moves_2p fun a6 =>
  Req (0 ≤ i_4 ∧ i_4 < ((moves_2l : Nat) : Int)) <|
  LoadT (.int .i8) ((a6.add (i_4.toNat * 8)).add 0) fun x7 =>
  LoadT (.int .i8) ((a6.add (i_4.toNat * 8)).add 1) fun x8 =>
  LoadT (.int .i8) ((a6.add (i_4.toNat * 8)).add 2) fun x9 =>
  LoadT (.int .i8) ((a6.add (i_4.toNat * 8)).add 3) fun x10 =>
  LoadT (.int .i8) ((a6.add (i_4.toNat * 8)).add 4) fun x11 =>
  LoadT (.int .i8) ((a6.add (i_4.toNat * 8)).add 5) fun x12 =>
  LoadT (.int .i8) ((a6.add (i_4.toNat * 8)).add 6) fun x13 =>
  LoadT (.int .i8) ((a6.add (i_4.toNat * 8)).add 7) fun x14 =>
  New [.int .i8 0, .int .i8 0, .int .i8 0, .int .i8 0, .int .i8 0, .int .i8 0, .int .i8 0, .int .i8 0] 45 fun n15 =>
  Store1 ⟨n15, 0, none⟩ (.int .i8 x7) <|
  Store1 ⟨n15, 1, none⟩ (.int .i8 x8) <|
  Store1 ⟨n15, 2, none⟩ (.int .i8 x9) <|
  Store1 ⟨n15, 3, none⟩ (.int .i8 x10) <|
  Store1 ⟨n15, 4, none⟩ (.int .i8 x11) <|
  Store1 ⟨n15, 5, none⟩ (.int .i8 x12) <|
  Store1 ⟨n15, 6, none⟩ (.int .i8 x13) <|
  Store1 ⟨n15, 7, none⟩ (.int .i8 x14) <|
  Loop [.slice, .slice, (.int .i64), .addr, (.int .i64)] (F5_L2 k again5) moves_2p moves_2l moves_2c out_3p out_3l out_3c i_4 ⟨n15, 0, none⟩ 1) (
  k (.slice out_3p out_3l out_3c))
theorem F5_L1_rule {k : Value → W} (I : Option Addr → Nat → Nat → Option Addr → Nat → Nat → Int → W) (μ : Option Addr → Nat → Nat → Option Addr → Nat → Nat → Int → World → Nat)
  (hr : ∀ (moves_2p : Option Addr) (moves_2l : Nat) (moves_2c : Nat) (out_3p : Option Addr) (out_3l : Nat) (out_3c : Nat) (i_4 : Int) (w : World), I moves_2p moves_2l moves_2c out_3p out_3l out_3c i_4 w → F5_L1 k (fun moves_2p' moves_2l' moves_2c' out_3p' out_3l' out_3c' i_4' w' => I moves_2p' moves_2l' moves_2c' out_3p' out_3l' out_3c' i_4' w' ∧ μ moves_2p' moves_2l' moves_2c' out_3p' out_3l' out_3c' i_4' w' < μ moves_2p moves_2l moves_2c out_3p out_3l out_3c i_4 w) moves_2p moves_2l moves_2c out_3p out_3l out_3c i_4 w)
  {w : World} {moves_2p : Option Addr} {moves_2l : Nat} {moves_2c : Nat} {out_3p : Option Addr} {out_3l : Nat} {out_3c : Nat} {i_4 : Int} (h : I moves_2p moves_2l moves_2c out_3p out_3l out_3c i_4 w) : Loop [.slice, .slice, (.int .i64)] (F5_L1 k) moves_2p moves_2l moves_2c out_3p out_3l out_3c i_4 w :=
  Loop_intro (ts := [.slice, .slice, (.int .i64)]) (s := ((moves_2p, moves_2l, moves_2c), (out_3p, out_3l, out_3c), i_4, ())) (fun s w => I s.1.1 s.1.2.1 s.1.2.2 s.2.1.1 s.2.1.2.1 s.2.1.2.2 s.2.2.1 w) (fun s w => μ s.1.1 s.1.2.1 s.1.2.2 s.2.1.1 s.2.1.2.1 s.2.1.2.2 s.2.2.1 w) h (fun s w h => hr s.1.1 s.1.2.1 s.1.2.2 s.2.1.1 s.2.1.2.1 s.2.1.2.2 s.2.2.1 w h)
def F5 (k : Value → W) (moves_1p : Option Addr) (moves_1l : Nat) (moves_1c : Nat) : W :=
 Loop [.slice, .slice, (.int .i64)] (F5_L1 k) moves_1p moves_1l moves_1c none 0 0 0
theorem F5_eq (k : Value → W) (moves_1p : Option Addr) (moves_1l : Nat) (moves_1c : Nat) : compF Go.Proofs.Tryz.prog Go.Proofs.Tryz.f5 [(3, [(0, .slice), (3, .slice), (4, (.int .i64))]), (7, [(0, .slice), (3, .slice), (4, (.int .i64)), (5, .addr), (6, (.int .i64))])] (Go.Proofs.Tryz.f5.body.getD .skip) [.slice moves_1p moves_1l moves_1c] k = F5 k moves_1p moves_1l moves_1c := by kernel_rfl
theorem F5_calls {moves_1p : Option Addr} {moves_1l : Nat} {moves_1c : Nat} {w : World} {R : Ending → World → Prop} (h : F5 (fun v w => R (.returned v) w) moves_1p moves_1l moves_1c w) : Calls Go.Proofs.Tryz.prog 5 #[.slice moves_1p moves_1l moves_1c] w R :=
  calls_of_compF noNum follows [(3, [(0, .slice), (3, .slice), (4, (.int .i64))]), (7, [(0, .slice), (3, .slice), (4, (.int .i64)), (5, .addr), (6, (.int .i64))])] (f := 5) (fn := Go.Proofs.Tryz.f5) (body := Go.Proofs.Tryz.f5.body.getD .skip) (args := [.slice moves_1p moves_1l moves_1c]) rfl rfl (Nat.le_of_ble_eq_true rfl) ((congrFun (F5_eq _ moves_1p moves_1l moves_1c) w).mpr h)
theorem F5_call {moves_1p : Option Addr} {moves_1l : Nat} {moves_1c : Nat} {w : World} {g : Fn W (RTy.leaves (.s (.one .slice)))} (h : F5 (fun v => Back (.s (.one .slice)) g (.returned v)) moves_1p moves_1l moves_1c w) : CallT Go.Proofs.Tryz.prog 5 [.slice moves_1p moves_1l moves_1c] (.s (.one .slice)) g w := F5_calls h

/-! ## laws.rtLess -/
def F14_L1 (k : Value → W) (again7 : Option Addr → Nat → Nat → Int → Option Addr → Nat → Nat → Int → W) (at_3p : Option Addr) (at_3l : Nat) (at_3c : Nat) (by_4 : Int) (out_5p : Option Addr) (out_5l : Nat) (out_5c : Nat) (i_6 : Int) : W :=
 BIf (decide (i_6 < ((at_3l : Nat) : Int))) (
  NN at_3p fun a8 =>
  Req (0 ≤ i_6 ∧ i_6 < ((at_3l : Nat) : Int)) <|
  LoadT (.int .i64) (a8.add i_6.toNat) fun x9 =>
  RawT Go.Proofs.Tryz.prog (Instr.buildSlice 28 1 [(0, .int .i64 (subI .i64 x9 by_4))].toArray) (.s (.one .slice)) fun s10p s10l s10c =>
  NextT Go.Proofs.Tryz.prog (builtin .append #[28, 28] 28 [false, false].toArray [.slice out_5p out_5l out_5c, .slice s10p s10l s10c].toArray) (.s (.one .slice)) fun s11p s11l s11c =>
  again7 at_3p at_3l at_3c by_4 s11p s11l s11c (addI .i64 i_6 1)) (
  k (.slice out_5p out_5l out_5c))
theorem F14_L1_rule {k : Value → W} (I : Option Addr → Nat → Nat → Int → Option Addr → Nat → Nat → Int → W) (μ : Option Addr → Nat → Nat → Int → Option Addr → Nat → Nat → Int → World → Nat)
  (hr : ∀ (at_3p : Option Addr) (at_3l : Nat) (at_3c : Nat) (by_4 : Int) (out_5p : Option Addr) (out_5l : Nat) (out_5c : Nat) (i_6 : Int) (w : World), I at_3p at_3l at_3c by_4 out_5p out_5l out_5c i_6 w → F14_L1 k (fun at_3p' at_3l' at_3c' by_4' out_5p' out_5l' out_5c' i_6' w' => I at_3p' at_3l' at_3c' by_4' out_5p' out_5l' out_5c' i_6' w' ∧ μ at_3p' at_3l' at_3c' by_4' out_5p' out_5l' out_5c' i_6' w' < μ at_3p at_3l at_3c by_4 out_5p out_5l out_5c i_6 w) at_3p at_3l at_3c by_4 out_5p out_5l out_5c i_6 w)
  {w : World} {at_3p : Option Addr} {at_3l : Nat} {at_3c : Nat} {by_4 : Int} {out_5p : Option Addr} {out_5l : Nat} {out_5c : Nat} {i_6 : Int} (h : I at_3p at_3l at_3c by_4 out_5p out_5l out_5c i_6 w) : Loop [.slice, (.int .i64), .slice, (.int .i64)] (F14_L1 k) at_3p at_3l at_3c by_4 out_5p out_5l out_5c i_6 w :=
  Loop_intro (ts := [.slice, (.int .i64), .slice, (.int .i64)]) (s := ((at_3p, at_3l, at_3c), by_4, (out_5p, out_5l, out_5c), i_6, ())) (fun s w => I s.1.1 s.1.2.1 s.1.2.2 s.2.1 s.2.2.1.1 s.2.2.1.2.1 s.2.2.1.2.2 s.2.2.2.1 w) (fun s w => μ s.1.1 s.1.2.1 s.1.2.2 s.2.1 s.2.2.1.1 s.2.2.1.2.1 s.2.2.1.2.2 s.2.2.2.1 w) h (fun s w h => hr s.1.1 s.1.2.1 s.1.2.2 s.2.1 s.2.2.1.1 s.2.2.1.2.1 s.2.2.1.2.2 s.2.2.2.1 w h)
def F14 (k : Value → W) (at_1p : Option Addr) (at_1l : Nat) (at_1c : Nat) (by_2 : Int) : W :=
 Loop [.slice, (.int .i64), .slice, (.int .i64)] (F14_L1 k) at_1p at_1l at_1c by_2 none 0 0 0
theorem F14_eq (k : Value → W) (at_1p : Option Addr) (at_1l : Nat) (at_1c : Nat) (by_2 : Int) : compF Go.Proofs.Tryz.prog Go.Proofs.Tryz.f14 [(3, [(0, .slice), (1, (.int .i64)), (5, .slice), (6, (.int .i64))])] (Go.Proofs.Tryz.f14.body.getD .skip) [.slice at_1p at_1l at_1c, .int .i64 by_2] k = F14 k at_1p at_1l at_1c by_2 := by kernel_rfl
theorem F14_calls {at_1p : Option Addr} {at_1l : Nat} {at_1c : Nat} {by_2 : Int} {w : World} {R : Ending → World → Prop} (h : F14 (fun v w => R (.returned v) w) at_1p at_1l at_1c by_2 w) : Calls Go.Proofs.Tryz.prog 14 #[.slice at_1p at_1l at_1c, .int .i64 by_2] w R :=
  calls_of_compF noNum follows [(3, [(0, .slice), (1, (.int .i64)), (5, .slice), (6, (.int .i64))])] (f := 14) (fn := Go.Proofs.Tryz.f14) (body := Go.Proofs.Tryz.f14.body.getD .skip) (args := [.slice at_1p at_1l at_1c, .int .i64 by_2]) rfl rfl (Nat.le_of_ble_eq_true rfl) ((congrFun (F14_eq _ at_1p at_1l at_1c by_2) w).mpr h)
theorem F14_call {at_1p : Option Addr} {at_1l : Nat} {at_1c : Nat} {by_2 : Int} {w : World} {g : Fn W (RTy.leaves (.s (.one .slice)))} (h : F14 (fun v => Back (.s (.one .slice)) g (.returned v)) at_1p at_1l at_1c by_2 w) : CallT Go.Proofs.Tryz.prog 14 [.slice at_1p at_1l at_1c, .int .i64 by_2] (.s (.one .slice)) g w := F14_calls h

/-! ## laws.srAsked -/
def F6 (k : Value → W) (x1 : Int) (x2 : Int) (s3p : Option Addr) (s3l : Nat) (s3c : Nat) (s4p : Option Addr) (s4l : Nat) (s4c : Nat) (s5p : Option Addr) (s5l : Nat) (s5c : Nat) (x6 : Int) (x7 : Int) (x8 : Int) (x9 : Int) : W :=
 New [.int .i64 x1, .int .i64 x2, .slice s3p s3l s3c, .slice s4p s4l s4c, .slice s5p s5l s5c, .int .u64 x6, .int .i64 x7, .int .i64 x8, .int .i64 x9] 31 fun n10 =>
 New [.int .i64 0, .int .i64 0, .slice none 0 0, .slice none 0 0, .slice none 0 0, .int .u64 0, .int .i64 0, .int .i64 0, .int .i64 0] 31 fun n11 =>
 LoadT .slice ⟨n10, 4, none⟩ fun s12p s12l s12c =>
 CallT Go.Proofs.Tryz.prog 14 [.slice s12p s12l s12c, .int .i64 1] (.s (.one .slice)) fun s13p s13l s13c =>
 Store1 ⟨n10, 4, none⟩ (.slice s13p s13l s13c) <|
 LoadT (.int .i64) ⟨n10, 0, none⟩ fun x14 =>
 LoadT (.int .i64) ⟨n10, 1, none⟩ fun x15 =>
 LoadT .slice ⟨n10, 2, none⟩ fun s16p s16l s16c =>
 LoadT .slice ⟨n10, 3, none⟩ fun s17p s17l s17c =>
 LoadT .slice ⟨n10, 4, none⟩ fun s18p s18l s18c =>
 LoadT (.int .u64) ⟨n10, 5, none⟩ fun x19 =>
 LoadT (.int .i64) ⟨n10, 6, none⟩ fun x20 =>
 LoadT (.int .i64) ⟨n10, 7, none⟩ fun x21 =>
 LoadT (.int .i64) ⟨n10, 8, none⟩ fun x22 =>
 Store1 ⟨n11, 0, none⟩ (.int .i64 x14) <|
 Store1 ⟨n11, 1, none⟩ (.int .i64 x15) <|
 Store1 ⟨n11, 2, none⟩ (.slice s16p s16l s16c) <|
 Store1 ⟨n11, 3, none⟩ (.slice s17p s17l s17c) <|
 Store1 ⟨n11, 4, none⟩ (.slice s18p s18l s18c) <|
 Store1 ⟨n11, 5, none⟩ (.int .u64 x19) <|
 Store1 ⟨n11, 6, none⟩ (.int .i64 x20) <|
 Store1 ⟨n11, 7, none⟩ (.int .i64 x21) <|
 Store1 ⟨n11, 8, none⟩ (.int .i64 x22) <|
 LoadT (.int .i64) ⟨n11, 0, none⟩ fun x23 =>
 LoadT (.int .i64) ⟨n11, 1, none⟩ fun x24 =>
 LoadT .slice ⟨n11, 2, none⟩ fun s25p s25l s25c =>
 LoadT .slice ⟨n11, 3, none⟩ fun s26p s26l s26c =>
 LoadT .slice ⟨n11, 4, none⟩ fun s27p s27l s27c =>
 LoadT (.int .u64) ⟨n11, 5, none⟩ fun x28 =>
 LoadT (.int .i64) ⟨n11, 6, none⟩ fun x29 =>
 LoadT (.int .i64) ⟨n11, 7, none⟩ fun x30 =>
 LoadT (.int .i64) ⟨n11, 8, none⟩ fun x31 =>
 k (.agg #[.int .i64 x23, .int .i64 x24, .slice s25p s25l s25c, .slice s26p s26l s26c, .slice s27p s27l s27c, .int .u64 x28, .int .i64 x29, .int .i64 x30, .int .i64 x31])
theorem F6_eq (k : Value → W) (x1 : Int) (x2 : Int) (s3p : Option Addr) (s3l : Nat) (s3c : Nat) (s4p : Option Addr) (s4l : Nat) (s4c : Nat) (s5p : Option Addr) (s5l : Nat) (s5c : Nat) (x6 : Int) (x7 : Int) (x8 : Int) (x9 : Int) : compF Go.Proofs.Tryz.prog Go.Proofs.Tryz.f6 [] (Go.Proofs.Tryz.f6.body.getD .skip) [.agg #[.int .i64 x1, .int .i64 x2, .slice s3p s3l s3c, .slice s4p s4l s4c, .slice s5p s5l s5c, .int .u64 x6, .int .i64 x7, .int .i64 x8, .int .i64 x9]] k = F6 k x1 x2 s3p s3l s3c s4p s4l s4c s5p s5l s5c x6 x7 x8 x9 := by kernel_rfl
theorem F6_calls {x1 : Int} {x2 : Int} {s3p : Option Addr} {s3l : Nat} {s3c : Nat} {s4p : Option Addr} {s4l : Nat} {s4c : Nat} {s5p : Option Addr} {s5l : Nat} {s5c : Nat} {x6 : Int} {x7 : Int} {x8 : Int} {x9 : Int} {w : World} {R : Ending → World → Prop} (h : F6 (fun v w => R (.returned v) w) x1 x2 s3p s3l s3c s4p s4l s4c s5p s5l s5c x6 x7 x8 x9 w) : Calls Go.Proofs.Tryz.prog 6 #[.agg #[.int .i64 x1, .int .i64 x2, .slice s3p s3l s3c, .slice s4p s4l s4c, .slice s5p s5l s5c, .int .u64 x6, .int .i64 x7, .int .i64 x8, .int .i64 x9]] w R :=
  calls_of_compF noNum follows [] (f := 6) (fn := Go.Proofs.Tryz.f6) (body := Go.Proofs.Tryz.f6.body.getD .skip) (args := [.agg #[.int .i64 x1, .int .i64 x2, .slice s3p s3l s3c, .slice s4p s4l s4c, .slice s5p s5l s5c, .int .u64 x6, .int .i64 x7, .int .i64 x8, .int .i64 x9]]) rfl rfl (Nat.le_of_ble_eq_true rfl) ((congrFun (F6_eq _ x1 x2 s3p s3l s3c s4p s4l s4c s5p s5l s5c x6 x7 x8 x9) w).mpr h)
theorem F6_call {x1 : Int} {x2 : Int} {s3p : Option Addr} {s3l : Nat} {s3c : Nat} {s4p : Option Addr} {s4l : Nat} {s4c : Nat} {s5p : Option Addr} {s5l : Nat} {s5c : Nat} {x6 : Int} {x7 : Int} {x8 : Int} {x9 : Int} {w : World} {g : Fn W (RTy.leaves (.s (.agg [(.int .i64), (.int .i64), .slice, .slice, .slice, (.int .u64), (.int .i64), (.int .i64), (.int .i64)])))} (h : F6 (fun v => Back (.s (.agg [(.int .i64), (.int .i64), .slice, .slice, .slice, (.int .u64), (.int .i64), (.int .i64), (.int .i64)])) g (.returned v)) x1 x2 s3p s3l s3c s4p s4l s4c s5p s5l s5c x6 x7 x8 x9 w) : CallT Go.Proofs.Tryz.prog 6 [.agg #[.int .i64 x1, .int .i64 x2, .slice s3p s3l s3c, .slice s4p s4l s4c, .slice s5p s5l s5c, .int .u64 x6, .int .i64 x7, .int .i64 x8, .int .i64 x9]] (.s (.agg [(.int .i64), (.int .i64), .slice, .slice, .slice, (.int .u64), (.int .i64), (.int .i64), (.int .i64)])) g w := F6_calls h

end Go.Proofs.YtfokodpnoiilbaaGreat.E
