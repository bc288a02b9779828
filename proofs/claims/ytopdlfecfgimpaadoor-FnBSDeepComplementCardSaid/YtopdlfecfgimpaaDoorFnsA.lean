/-
  Printed by this session's own program eng.py out of Lean's print of the loaded functions: what each function's body asks, in the engine's words; each is checked against the program by the kernel.
-/
import Derived.Test.YtopdlfecfgimpaaDoorEng
import Derived.Test.YtopdlfecfgimpaaDoorProg
namespace Go.Proofs.YtopdlfecfgimpaaDoor.E
open Go
set_option linter.unusedVariables false
set_option maxRecDepth 100000
theorem noNum : NoNum Go.Proofs.Tryd.prog := noNum_of (by kernel_rfl)
theorem follows : (Go.Proofs.Tryd.prog).follows .mixedOrders = true := by kernel_rfl

/-! ## laws.zzFits3 -/
def F7 (k : Value → W) (x1 : Int) (s2p : Option Addr) (s2l : Nat) (s2c : Nat) : W :=
 New [.int .u64 x1, .slice s2p s2l s2c] 25 fun n3 =>
 LoadT .slice ⟨n3, 1, none⟩ fun s4p s4l s4c =>
 BIf (decide (((s4l : Nat) : Int) > 2147483647)) (
  k (.bool false)) (
  k (.bool true))
theorem F7_eq (k : Value → W) (x1 : Int) (s2p : Option Addr) (s2l : Nat) (s2c : Nat) : compF Go.Proofs.Tryd.prog Go.Proofs.Tryd.f7 [] (Go.Proofs.Tryd.f7.body.getD .skip) [.agg #[.int .u64 x1, .slice s2p s2l s2c]] k = F7 k x1 s2p s2l s2c := by kernel_rfl
theorem F7_calls {x1 : Int} {s2p : Option Addr} {s2l : Nat} {s2c : Nat} {w : World} {R : Ending → World → Prop} (h : F7 (fun v w => R (.returned v) w) x1 s2p s2l s2c w) : Calls Go.Proofs.Tryd.prog 7 #[.agg #[.int .u64 x1, .slice s2p s2l s2c]] w R :=
  calls_of_compF noNum follows [] (f := 7) (fn := Go.Proofs.Tryd.f7) (body := Go.Proofs.Tryd.f7.body.getD .skip) (args := [.agg #[.int .u64 x1, .slice s2p s2l s2c]]) rfl rfl (Nat.le_of_ble_eq_true rfl) ((congrFun (F7_eq _ x1 s2p s2l s2c) w).mpr h)
theorem F7_call {x1 : Int} {s2p : Option Addr} {s2l : Nat} {s2c : Nat} {w : World} {g : Fn W (RTy.leaves (.s (.one .bool)))} (h : F7 (fun v => Back (.s (.one .bool)) g (.returned v)) x1 s2p s2l s2c w) : CallT Go.Proofs.Tryd.prog 7 [.agg #[.int .u64 x1, .slice s2p s2l s2c]] (.s (.one .bool)) g w := F7_calls h

/-! ## laws.bsBits -/
def F9_L1 (k : Value → W) (again11 : Addr → Addr → Option Addr → Nat → Nat → Int → W) (x_7 : Addr) (a8 : Addr) (b_9p : Option Addr) (b_9l : Nat) (b_9c : Nat) (i_10 : Int) : W :=
 LoadT .slice (x_7.add 1) fun s12p s12l s12c =>
 BIf (decide (i_10 < ((s12l : Nat) : Int))) (
  BIf (decide (i_10 < 1000)) (
   BIf (decide (((b_9l : Nat) : Int) > 0)) (
    LoadT .slice (x_7.add 1) fun s13p s13l s13c =>
    NN s13p fun a14 =>
    Req (0 ≤ i_10 ∧ i_10 < ((s13l : Nat) : Int)) <|
    LoadT (.int .u64) (a14.add i_10.toNat) fun x15 =>
    Req (IntKind.wrap .u64 ((b_9l : Nat) : Int) ≠ (0 : Int)) <|
    NN b_9p fun a16 =>
    Req (0 ≤ remI x15 (IntKind.wrap .u64 ((b_9l : Nat) : Int)) ∧ remI x15 (IntKind.wrap .u64 ((b_9l : Nat) : Int)) < ((b_9l : Nat) : Int)) <|
    Store1 (a16.add ((remI x15 (IntKind.wrap .u64 ((b_9l : Nat) : Int))).toNat)) (.bool true) <|
    again11 x_7 a8 b_9p b_9l b_9c (addI .i64 i_10 1)) (
    CallT Go.Proofs.Tryd.prog 32 [.slice b_9p b_9l b_9c] (.s (.agg [(.int .u64), .slice])) fun x17 s18p s18l s18c =>
    Store1 (a8.add 0) (.int .u64 x17) <|
    Store1 (a8.add 1) (.slice s18p s18l s18c) <|
    LoadT (.int .u64) (a8.add 0) fun x19 =>
    LoadT .slice (a8.add 1) fun s20p s20l s20c =>
    k (.agg #[.int .u64 x19, .slice s20p s20l s20c]))) (
   CallT Go.Proofs.Tryd.prog 32 [.slice b_9p b_9l b_9c] (.s (.agg [(.int .u64), .slice])) fun x21 s22p s22l s22c =>
   Store1 (a8.add 0) (.int .u64 x21) <|
   Store1 (a8.add 1) (.slice s22p s22l s22c) <|
   LoadT (.int .u64) (a8.add 0) fun x23 =>
   LoadT .slice (a8.add 1) fun s24p s24l s24c =>
   k (.agg #[.int .u64 x23, .slice s24p s24l s24c]))) (
  CallT Go.Proofs.Tryd.prog 32 [.slice b_9p b_9l b_9c] (.s (.agg [(.int .u64), .slice])) fun x25 s26p s26l s26c =>
  Store1 (a8.add 0) (.int .u64 x25) <|
  Store1 (a8.add 1) (.slice s26p s26l s26c) <|
  LoadT (.int .u64) (a8.add 0) fun x27 =>
  LoadT .slice (a8.add 1) fun s28p s28l s28c =>
  k (.agg #[.int .u64 x27, .slice s28p s28l s28c]))
theorem F9_L1_rule {k : Value → W} (I : Addr → Addr → Option Addr → Nat → Nat → Int → W) (μ : Addr → Addr → Option Addr → Nat → Nat → Int → World → Nat)
  (hr : ∀ (x_7 : Addr) (a8 : Addr) (b_9p : Option Addr) (b_9l : Nat) (b_9c : Nat) (i_10 : Int) (w : World), I x_7 a8 b_9p b_9l b_9c i_10 w → F9_L1 k (fun x_7' a8' b_9p' b_9l' b_9c' i_10' w' => I x_7' a8' b_9p' b_9l' b_9c' i_10' w' ∧ μ x_7' a8' b_9p' b_9l' b_9c' i_10' w' < μ x_7 a8 b_9p b_9l b_9c i_10 w) x_7 a8 b_9p b_9l b_9c i_10 w)
  {w : World} {x_7 : Addr} {a8 : Addr} {b_9p : Option Addr} {b_9l : Nat} {b_9c : Nat} {i_10 : Int} (h : I x_7 a8 b_9p b_9l b_9c i_10 w) : Loop [.addr, .addr, .slice, (.int .i64)] (F9_L1 k) x_7 a8 b_9p b_9l b_9c i_10 w :=
  Loop_intro (ts := [.addr, .addr, .slice, (.int .i64)]) (s := (x_7, a8, (b_9p, b_9l, b_9c), i_10, ())) (fun s w => I s.1 s.2.1 s.2.2.1.1 s.2.2.1.2.1 s.2.2.1.2.2 s.2.2.2.1 w) (fun s w => μ s.1 s.2.1 s.2.2.1.1 s.2.2.1.2.1 s.2.2.1.2.2 s.2.2.2.1 w) h (fun s w h => hr s.1 s.2.1 s.2.2.1.1 s.2.2.1.2.1 s.2.2.1.2.2 s.2.2.2.1 w h)
def F9 (k : Value → W) (x1 : Int) (s2p : Option Addr) (s2l : Nat) (s2c : Nat) : W :=
 New [.int .u64 x1, .slice s2p s2l s2c] 25 fun n3 =>
 New [.int .u64 0, .slice none 0 0] 25 fun n4 =>
 LoadT (.int .u64) ⟨n3, 0, none⟩ fun x5 =>
 Req (401 ≠ (0 : Int)) <|
 RawT Go.Proofs.Tryd.prog (Instr.makeSlice 48 (.int .u64 (remI x5 401)) (.int .u64 (remI x5 401))) (.s (.one .slice)) fun s6p s6l s6c =>
 Loop [.addr, .addr, .slice, (.int .i64)] (F9_L1 k) ⟨n3, 0, none⟩ ⟨n4, 0, none⟩ s6p s6l s6c 0
theorem F9_eq (k : Value → W) (x1 : Int) (s2p : Option Addr) (s2l : Nat) (s2c : Nat) : compF Go.Proofs.Tryd.prog Go.Proofs.Tryd.f9 [(3, [(1, .addr), (2, .addr), (3, .slice), (4, (.int .i64))])] (Go.Proofs.Tryd.f9.body.getD .skip) [.agg #[.int .u64 x1, .slice s2p s2l s2c]] k = F9 k x1 s2p s2l s2c := by kernel_rfl
theorem F9_calls {x1 : Int} {s2p : Option Addr} {s2l : Nat} {s2c : Nat} {w : World} {R : Ending → World → Prop} (h : F9 (fun v w => R (.returned v) w) x1 s2p s2l s2c w) : Calls Go.Proofs.Tryd.prog 9 #[.agg #[.int .u64 x1, .slice s2p s2l s2c]] w R :=
  calls_of_compF noNum follows [(3, [(1, .addr), (2, .addr), (3, .slice), (4, (.int .i64))])] (f := 9) (fn := Go.Proofs.Tryd.f9) (body := Go.Proofs.Tryd.f9.body.getD .skip) (args := [.agg #[.int .u64 x1, .slice s2p s2l s2c]]) rfl rfl (Nat.le_of_ble_eq_true rfl) ((congrFun (F9_eq _ x1 s2p s2l s2c) w).mpr h)
theorem F9_call {x1 : Int} {s2p : Option Addr} {s2l : Nat} {s2c : Nat} {w : World} {g : Fn W (RTy.leaves (.s (.agg [(.int .u64), .slice])))} (h : F9 (fun v => Back (.s (.agg [(.int .u64), .slice])) g (.returned v)) x1 s2p s2l s2c w) : CallT Go.Proofs.Tryd.prog 9 [.agg #[.int .u64 x1, .slice s2p s2l s2c]] (.s (.agg [(.int .u64), .slice])) g w := F9_calls h

/-! ## spec.BSMake -/
def F32_L1 (k : Value → W) (again8 : Option Addr → Nat → Nat → Addr → Addr → Int → W) (b_4p : Option Addr) (b_4l : Nat) (b_4c : Nat) (a5 : Addr) (x_6 : Addr) (i_7 : Int) : W :=
 BIf (decide (i_7 < ((b_4l : Nat) : Int))) (
  NN b_4p fun a9 =>
  Req (0 ≤ i_7 ∧ i_7 < ((b_4l : Nat) : Int)) <|
  LoadT .bool (a9.add i_7.toNat) fun b10 =>
  BIf b10 (
   LoadT .slice (x_6.add 1) fun s11p s11l s11c =>
   RawT Go.Proofs.Tryd.prog (Instr.buildSlice 23 1 [(0, .int .u64 (IntKind.wrap .u64 i_7))].toArray) (.s (.one .slice)) fun s12p s12l s12c =>
   NextT Go.Proofs.Tryd.prog (builtin .append #[23, 23] 23 [false, false].toArray [.slice s11p s11l s11c, .slice s12p s12l s12c].toArray) (.s (.one .slice)) fun s13p s13l s13c =>
   Store1 (x_6.add 1) (.slice s13p s13l s13c) <|
   again8 b_4p b_4l b_4c a5 x_6 (addI .i64 i_7 1)) (
   again8 b_4p b_4l b_4c a5 x_6 (addI .i64 i_7 1))) (
  LoadT (.int .u64) (x_6.add 0) fun x14 =>
  LoadT .slice (x_6.add 1) fun s15p s15l s15c =>
  Store1 (a5.add 0) (.int .u64 x14) <|
  Store1 (a5.add 1) (.slice s15p s15l s15c) <|
  LoadT (.int .u64) (a5.add 0) fun x16 =>
  LoadT .slice (a5.add 1) fun s17p s17l s17c =>
  k (.agg #[.int .u64 x16, .slice s17p s17l s17c]))
theorem F32_L1_rule {k : Value → W} (I : Option Addr → Nat → Nat → Addr → Addr → Int → W) (μ : Option Addr → Nat → Nat → Addr → Addr → Int → World → Nat)
  (hr : ∀ (b_4p : Option Addr) (b_4l : Nat) (b_4c : Nat) (a5 : Addr) (x_6 : Addr) (i_7 : Int) (w : World), I b_4p b_4l b_4c a5 x_6 i_7 w → F32_L1 k (fun b_4p' b_4l' b_4c' a5' x_6' i_7' w' => I b_4p' b_4l' b_4c' a5' x_6' i_7' w' ∧ μ b_4p' b_4l' b_4c' a5' x_6' i_7' w' < μ b_4p b_4l b_4c a5 x_6 i_7 w) b_4p b_4l b_4c a5 x_6 i_7 w)
  {w : World} {b_4p : Option Addr} {b_4l : Nat} {b_4c : Nat} {a5 : Addr} {x_6 : Addr} {i_7 : Int} (h : I b_4p b_4l b_4c a5 x_6 i_7 w) : Loop [.slice, .addr, .addr, (.int .i64)] (F32_L1 k) b_4p b_4l b_4c a5 x_6 i_7 w :=
  Loop_intro (ts := [.slice, .addr, .addr, (.int .i64)]) (s := ((b_4p, b_4l, b_4c), a5, x_6, i_7, ())) (fun s w => I s.1.1 s.1.2.1 s.1.2.2 s.2.1 s.2.2.1 s.2.2.2.1 w) (fun s w => μ s.1.1 s.1.2.1 s.1.2.2 s.2.1 s.2.2.1 s.2.2.2.1 w) h (fun s w h => hr s.1.1 s.1.2.1 s.1.2.2 s.2.1 s.2.2.1 s.2.2.2.1 w h)
def F32 (k : Value → W) (b_1p : Option Addr) (b_1l : Nat) (b_1c : Nat) : W :=
 New [.int .u64 0, .slice none 0 0] 25 fun n2 =>
 New [.int .u64 0, .slice none 0 0] 25 fun n3 =>
 Store1 ⟨n3, 0, none⟩ (.int .u64 (IntKind.wrap .u64 ((b_1l : Nat) : Int))) <|
 Store1 ⟨n3, 1, none⟩ (.slice none 0 0) <|
 Loop [.slice, .addr, .addr, (.int .i64)] (F32_L1 k) b_1p b_1l b_1c ⟨n2, 0, none⟩ ⟨n3, 0, none⟩ 0
theorem F32_eq (k : Value → W) (b_1p : Option Addr) (b_1l : Nat) (b_1c : Nat) : compF Go.Proofs.Tryd.prog Go.Proofs.Tryd.f32 [(3, [(0, .slice), (2, .addr), (3, .addr), (4, (.int .i64))])] (Go.Proofs.Tryd.f32.body.getD .skip) [.slice b_1p b_1l b_1c] k = F32 k b_1p b_1l b_1c := by kernel_rfl
theorem F32_calls {b_1p : Option Addr} {b_1l : Nat} {b_1c : Nat} {w : World} {R : Ending → World → Prop} (h : F32 (fun v w => R (.returned v) w) b_1p b_1l b_1c w) : Calls Go.Proofs.Tryd.prog 32 #[.slice b_1p b_1l b_1c] w R :=
  calls_of_compF noNum follows [(3, [(0, .slice), (2, .addr), (3, .addr), (4, (.int .i64))])] (f := 32) (fn := Go.Proofs.Tryd.f32) (body := Go.Proofs.Tryd.f32.body.getD .skip) (args := [.slice b_1p b_1l b_1c]) rfl rfl (Nat.le_of_ble_eq_true rfl) ((congrFun (F32_eq _ b_1p b_1l b_1c) w).mpr h)
theorem F32_call {b_1p : Option Addr} {b_1l : Nat} {b_1c : Nat} {w : World} {g : Fn W (RTy.leaves (.s (.agg [(.int .u64), .slice])))} (h : F32 (fun v => Back (.s (.agg [(.int .u64), .slice])) g (.returned v)) b_1p b_1l b_1c w) : CallT Go.Proofs.Tryd.prog 32 [.slice b_1p b_1l b_1c] (.s (.agg [(.int .u64), .slice])) g w := F32_calls h

/-! ## impl.BSTest -/
def F16 (k : Value → W) (x1 : Int) (s2p : Option Addr) (s2l : Nat) (s2c : Nat) (i_3 : Int) : W :=
 New [.int .u64 x1, .slice s2p s2l s2c] 25 fun n4 =>
 LoadT (.int .u64) ⟨n4, 0, none⟩ fun x5 =>
 LoadT .slice ⟨n4, 1, none⟩ fun s6p s6l s6c =>
 CallT Go.Proofs.Tryd.prog 29 [.agg #[.int .u64 x5, .slice s6p s6l s6c]] (.s (.one .ptr)) fun p7 =>
 CallT Go.Proofs.Tryd.prog 39 [.pointer p7, .int .u64 i_3] (.s (.one .bool)) fun b8 =>
 k (.bool b8)
theorem F16_eq (k : Value → W) (x1 : Int) (s2p : Option Addr) (s2l : Nat) (s2c : Nat) (i_3 : Int) : compF Go.Proofs.Tryd.prog Go.Proofs.Tryd.f16 [] (Go.Proofs.Tryd.f16.body.getD .skip) [.agg #[.int .u64 x1, .slice s2p s2l s2c], .int .u64 i_3] k = F16 k x1 s2p s2l s2c i_3 := by kernel_rfl
theorem F16_calls {x1 : Int} {s2p : Option Addr} {s2l : Nat} {s2c : Nat} {i_3 : Int} {w : World} {R : Ending → World → Prop} (h : F16 (fun v w => R (.returned v) w) x1 s2p s2l s2c i_3 w) : Calls Go.Proofs.Tryd.prog 16 #[.agg #[.int .u64 x1, .slice s2p s2l s2c], .int .u64 i_3] w R :=
  calls_of_compF noNum follows [] (f := 16) (fn := Go.Proofs.Tryd.f16) (body := Go.Proofs.Tryd.f16.body.getD .skip) (args := [.agg #[.int .u64 x1, .slice s2p s2l s2c], .int .u64 i_3]) rfl rfl (Nat.le_of_ble_eq_true rfl) ((congrFun (F16_eq _ x1 s2p s2l s2c i_3) w).mpr h)
theorem F16_call {x1 : Int} {s2p : Option Addr} {s2l : Nat} {s2c : Nat} {i_3 : Int} {w : World} {g : Fn W (RTy.leaves (.s (.one .bool)))} (h : F16 (fun v => Back (.s (.one .bool)) g (.returned v)) x1 s2p s2l s2c i_3 w) : CallT Go.Proofs.Tryd.prog 16 [.agg #[.int .u64 x1, .slice s2p s2l s2c], .int .u64 i_3] (.s (.one .bool)) g w := F16_calls h

/-! ## impl.set64 -/
def F29_L1 (k : Value → W) (again11 : Option Addr → Option Addr → Nat → Nat → Int → Int → W) (x_7 : Option Addr) (s8p : Option Addr) (s8l : Nat) (s8c : Nat) (x9 : Int) (x10 : Int) : W :=
 BIf (decide (x10 < x9)) (
  NN s8p fun a12 =>
  Req (0 ≤ x10 ∧ x10 < ((s8l : Nat) : Int)) <|
  LoadT (.int .u64) (a12.add x10.toNat) fun x13 =>
  CallT Go.Proofs.Tryd.prog 30 [.pointer x_7, .int .u64 x13] (.s (.one .ptr)) fun p14 =>
  again11 x_7 s8p s8l s8c x9 (addI .i64 x10 1)) (
  k (.pointer x_7))
theorem F29_L1_rule {k : Value → W} (I : Option Addr → Option Addr → Nat → Nat → Int → Int → W) (μ : Option Addr → Option Addr → Nat → Nat → Int → Int → World → Nat)
  (hr : ∀ (x_7 : Option Addr) (s8p : Option Addr) (s8l : Nat) (s8c : Nat) (x9 : Int) (x10 : Int) (w : World), I x_7 s8p s8l s8c x9 x10 w → F29_L1 k (fun x_7' s8p' s8l' s8c' x9' x10' w' => I x_7' s8p' s8l' s8c' x9' x10' w' ∧ μ x_7' s8p' s8l' s8c' x9' x10' w' < μ x_7 s8p s8l s8c x9 x10 w) x_7 s8p s8l s8c x9 x10 w)
  {w : World} {x_7 : Option Addr} {s8p : Option Addr} {s8l : Nat} {s8c : Nat} {x9 : Int} {x10 : Int} (h : I x_7 s8p s8l s8c x9 x10 w) : Loop [.ptr, .slice, (.int .i64), (.int .i64)] (F29_L1 k) x_7 s8p s8l s8c x9 x10 w :=
  Loop_intro (ts := [.ptr, .slice, (.int .i64), (.int .i64)]) (s := (x_7, (s8p, s8l, s8c), x9, x10, ())) (fun s w => I s.1 s.2.1.1 s.2.1.2.1 s.2.1.2.2 s.2.2.1 s.2.2.2.1 w) (fun s w => μ s.1 s.2.1.1 s.2.1.2.1 s.2.1.2.2 s.2.2.1 s.2.2.2.1 w) h (fun s w h => hr s.1 s.2.1.1 s.2.1.2.1 s.2.1.2.2 s.2.2.1 s.2.2.2.1 w h)
def F29 (k : Value → W) (x1 : Int) (s2p : Option Addr) (s2l : Nat) (s2c : Nat) : W :=
 New [.int .u64 x1, .slice s2p s2l s2c] 25 fun n3 =>
 LoadT (.int .u64) ⟨n3, 0, none⟩ fun x4 =>
 CallT Go.Proofs.Tryd.prog 50 [.int .u64 x4] (.s (.one .ptr)) fun p5 =>
 LoadT .slice ⟨n3, 1, none⟩ fun s6p s6l s6c =>
 Loop [.ptr, .slice, (.int .i64), (.int .i64)] (F29_L1 k) p5 s6p s6l s6c ((s6l : Nat) : Int) 0
theorem F29_eq (k : Value → W) (x1 : Int) (s2p : Option Addr) (s2l : Nat) (s2c : Nat) : compF Go.Proofs.Tryd.prog Go.Proofs.Tryd.f29 [(3, [(3, .ptr), (10, .slice), (11, (.int .i64)), (12, (.int .i64))])] (Go.Proofs.Tryd.f29.body.getD .skip) [.agg #[.int .u64 x1, .slice s2p s2l s2c]] k = F29 k x1 s2p s2l s2c := by kernel_rfl
theorem F29_calls {x1 : Int} {s2p : Option Addr} {s2l : Nat} {s2c : Nat} {w : World} {R : Ending → World → Prop} (h : F29 (fun v w => R (.returned v) w) x1 s2p s2l s2c w) : Calls Go.Proofs.Tryd.prog 29 #[.agg #[.int .u64 x1, .slice s2p s2l s2c]] w R :=
  calls_of_compF noNum follows [(3, [(3, .ptr), (10, .slice), (11, (.int .i64)), (12, (.int .i64))])] (f := 29) (fn := Go.Proofs.Tryd.f29) (body := Go.Proofs.Tryd.f29.body.getD .skip) (args := [.agg #[.int .u64 x1, .slice s2p s2l s2c]]) rfl rfl (Nat.le_of_ble_eq_true rfl) ((congrFun (F29_eq _ x1 s2p s2l s2c) w).mpr h)
theorem F29_call {x1 : Int} {s2p : Option Addr} {s2l : Nat} {s2c : Nat} {w : World} {g : Fn W (RTy.leaves (.s (.one .ptr)))} (h : F29 (fun v => Back (.s (.one .ptr)) g (.returned v)) x1 s2p s2l s2c w) : CallT Go.Proofs.Tryd.prog 29 [.agg #[.int .u64 x1, .slice s2p s2l s2c]] (.s (.one .ptr)) g w := F29_calls h

/-! ## impl.said64 -/
def F31_L1 (k : Value → W) (again9 : Option Addr → Addr → Addr → Int → W) (x_5 : Option Addr) (a6 : Addr) (out_7 : Addr) (i_8 : Int) : W :=
 LoadT (.int .u64) out_7 fun x10 =>
 BIf (decide (i_8 < x10)) (
  CallT Go.Proofs.Tryd.prog 39 [.pointer x_5, .int .u64 i_8] (.s (.one .bool)) fun b11 =>
  BIf b11 (
   LoadT .slice (out_7.add 1) fun s12p s12l s12c =>
   RawT Go.Proofs.Tryd.prog (Instr.buildSlice 23 1 [(0, .int .u64 i_8)].toArray) (.s (.one .slice)) fun s13p s13l s13c =>
   NextT Go.Proofs.Tryd.prog (builtin .append #[23, 23] 23 [false, false].toArray [.slice s12p s12l s12c, .slice s13p s13l s13c].toArray) (.s (.one .slice)) fun s14p s14l s14c =>
   Store1 (out_7.add 1) (.slice s14p s14l s14c) <|
   again9 x_5 a6 out_7 (addI .u64 i_8 1)) (
   again9 x_5 a6 out_7 (addI .u64 i_8 1))) (
  LoadT (.int .u64) (out_7.add 0) fun x15 =>
  LoadT .slice (out_7.add 1) fun s16p s16l s16c =>
  Store1 (a6.add 0) (.int .u64 x15) <|
  Store1 (a6.add 1) (.slice s16p s16l s16c) <|
  LoadT (.int .u64) (a6.add 0) fun x17 =>
  LoadT .slice (a6.add 1) fun s18p s18l s18c =>
  k (.agg #[.int .u64 x17, .slice s18p s18l s18c]))
theorem F31_L1_rule {k : Value → W} (I : Option Addr → Addr → Addr → Int → W) (μ : Option Addr → Addr → Addr → Int → World → Nat)
  (hr : ∀ (x_5 : Option Addr) (a6 : Addr) (out_7 : Addr) (i_8 : Int) (w : World), I x_5 a6 out_7 i_8 w → F31_L1 k (fun x_5' a6' out_7' i_8' w' => I x_5' a6' out_7' i_8' w' ∧ μ x_5' a6' out_7' i_8' w' < μ x_5 a6 out_7 i_8 w) x_5 a6 out_7 i_8 w)
  {w : World} {x_5 : Option Addr} {a6 : Addr} {out_7 : Addr} {i_8 : Int} (h : I x_5 a6 out_7 i_8 w) : Loop [.ptr, .addr, .addr, (.int .u64)] (F31_L1 k) x_5 a6 out_7 i_8 w :=
  Loop_intro (ts := [.ptr, .addr, .addr, (.int .u64)]) (s := (x_5, a6, out_7, i_8, ())) (fun s w => I s.1 s.2.1 s.2.2.1 s.2.2.2.1 w) (fun s w => μ s.1 s.2.1 s.2.2.1 s.2.2.2.1 w) h (fun s w h => hr s.1 s.2.1 s.2.2.1 s.2.2.2.1 w h)
def F31 (k : Value → W) (x_1 : Option Addr) : W :=
 New [.int .u64 0, .slice none 0 0] 25 fun n2 =>
 CallT Go.Proofs.Tryd.prog 44 [.pointer x_1] (.s (.one (.int .u64))) fun x3 =>
 New [.int .u64 0, .slice none 0 0] 25 fun n4 =>
 Store1 ⟨n4, 0, none⟩ (.int .u64 x3) <|
 Store1 ⟨n4, 1, none⟩ (.slice none 0 0) <|
 Loop [.ptr, .addr, .addr, (.int .u64)] (F31_L1 k) x_1 ⟨n2, 0, none⟩ ⟨n4, 0, none⟩ 0
theorem F31_eq (k : Value → W) (x_1 : Option Addr) : compF Go.Proofs.Tryd.prog Go.Proofs.Tryd.f31 [(3, [(0, .ptr), (2, .addr), (3, .addr), (4, (.int .u64))])] (Go.Proofs.Tryd.f31.body.getD .skip) [.pointer x_1] k = F31 k x_1 := by kernel_rfl
theorem F31_calls {x_1 : Option Addr} {w : World} {R : Ending → World → Prop} (h : F31 (fun v w => R (.returned v) w) x_1 w) : Calls Go.Proofs.Tryd.prog 31 #[.pointer x_1] w R :=
  calls_of_compF noNum follows [(3, [(0, .ptr), (2, .addr), (3, .addr), (4, (.int .u64))])] (f := 31) (fn := Go.Proofs.Tryd.f31) (body := Go.Proofs.Tryd.f31.body.getD .skip) (args := [.pointer x_1]) rfl rfl (Nat.le_of_ble_eq_true rfl) ((congrFun (F31_eq _ x_1) w).mpr h)
theorem F31_call {x_1 : Option Addr} {w : World} {g : Fn W (RTy.leaves (.s (.agg [(.int .u64), .slice])))} (h : F31 (fun v => Back (.s (.agg [(.int .u64), .slice])) g (.returned v)) x_1 w) : CallT Go.Proofs.Tryd.prog 31 [.pointer x_1] (.s (.agg [(.int .u64), .slice])) g w := F31_calls h

/-! ## bitset.BitSet).Test -/
def F39 (k : Value → W) (b_1 : Option Addr) (i_2 : Int) : W :=
 NN b_1 fun a3 =>
 LoadT (.int .u64) a3 fun x4 =>
 BIf (decide (i_2 ≥ x4)) (
  k (.bool false)) (
  Drw <|
  NN b_1 fun a5 =>
  LoadT .slice (a5.add 1) fun s6p s6l s6c =>
  NN s6p fun a7 =>
  Req (0 ≤ shrI .u64 i_2 6 ∧ shrI .u64 i_2 6 < ((s6l : Nat) : Int)) <|
  LoadT (.int .u64) (a7.add ((shrI .u64 i_2 6).toNat)) fun x8 =>
  CallT Go.Proofs.Tryd.prog 52 [.int .u64 i_2] (.s (.one (.int .u64))) fun x9 =>
  Chk1 (a7.add ((shrI .u64 i_2 6).toNat)) (.int .u64 x8) <|
  Chk1 (a5.add 1) (.slice s6p s6l s6c) <|
  Req (0 ≤ x9) <|
  Bind ((andI .u64 x8 (shlI .u64 1 x9.toNat)) != 0) fun y10 =>
  k (.bool y10))
theorem F39_eq (k : Value → W) (b_1 : Option Addr) (i_2 : Int) : compF Go.Proofs.Tryd.prog Go.Proofs.Tryd.f39 [] (Go.Proofs.Tryd.f39.body.getD .skip) [.pointer b_1, .int .u64 i_2] k = F39 k b_1 i_2 := by kernel_rfl
theorem F39_calls {b_1 : Option Addr} {i_2 : Int} {w : World} {R : Ending → World → Prop} (h : F39 (fun v w => R (.returned v) w) b_1 i_2 w) : Calls Go.Proofs.Tryd.prog 39 #[.pointer b_1, .int .u64 i_2] w R :=
  calls_of_compF noNum follows [] (f := 39) (fn := Go.Proofs.Tryd.f39) (body := Go.Proofs.Tryd.f39.body.getD .skip) (args := [.pointer b_1, .int .u64 i_2]) rfl rfl (Nat.le_of_ble_eq_true rfl) ((congrFun (F39_eq _ b_1 i_2) w).mpr h)
theorem F39_call {b_1 : Option Addr} {i_2 : Int} {w : World} {g : Fn W (RTy.leaves (.s (.one .bool)))} (h : F39 (fun v => Back (.s (.one .bool)) g (.returned v)) b_1 i_2 w) : CallT Go.Proofs.Tryd.prog 39 [.pointer b_1, .int .u64 i_2] (.s (.one .bool)) g w := F39_calls h

/-! ## spec.BSList -/
def F11_L1 (k : Value → W) (again6 : Option Addr → Nat → Nat → Option Addr → Nat → Nat → Int → W) (a_3p : Option Addr) (a_3l : Nat) (a_3c : Nat) (b_4p : Option Addr) (b_4l : Nat) (b_4c : Nat) (i_5 : Int) : W :=
 BIf (decide (i_5 < ((a_3l : Nat) : Int))) (
  Drw <|
  NN a_3p fun a7 =>
  Req (0 ≤ i_5 ∧ i_5 < ((a_3l : Nat) : Int)) <|
  LoadT (.int .u64) (a7.add i_5.toNat) fun x8 =>
  NN b_4p fun a9 =>
  Req (0 ≤ i_5 ∧ i_5 < ((b_4l : Nat) : Int)) <|
  LoadT (.int .u64) (a9.add i_5.toNat) fun x10 =>
  BIf (x8 != x10) (
   k (.bool false)) (
   again6 a_3p a_3l a_3c b_4p b_4l b_4c (addI .i64 i_5 1))) (
  k (.bool true))
theorem F11_L1_rule {k : Value → W} (I : Option Addr → Nat → Nat → Option Addr → Nat → Nat → Int → W) (μ : Option Addr → Nat → Nat → Option Addr → Nat → Nat → Int → World → Nat)
  (hr : ∀ (a_3p : Option Addr) (a_3l : Nat) (a_3c : Nat) (b_4p : Option Addr) (b_4l : Nat) (b_4c : Nat) (i_5 : Int) (w : World), I a_3p a_3l a_3c b_4p b_4l b_4c i_5 w → F11_L1 k (fun a_3p' a_3l' a_3c' b_4p' b_4l' b_4c' i_5' w' => I a_3p' a_3l' a_3c' b_4p' b_4l' b_4c' i_5' w' ∧ μ a_3p' a_3l' a_3c' b_4p' b_4l' b_4c' i_5' w' < μ a_3p a_3l a_3c b_4p b_4l b_4c i_5 w) a_3p a_3l a_3c b_4p b_4l b_4c i_5 w)
  {w : World} {a_3p : Option Addr} {a_3l : Nat} {a_3c : Nat} {b_4p : Option Addr} {b_4l : Nat} {b_4c : Nat} {i_5 : Int} (h : I a_3p a_3l a_3c b_4p b_4l b_4c i_5 w) : Loop [.slice, .slice, (.int .i64)] (F11_L1 k) a_3p a_3l a_3c b_4p b_4l b_4c i_5 w :=
  Loop_intro (ts := [.slice, .slice, (.int .i64)]) (s := ((a_3p, a_3l, a_3c), (b_4p, b_4l, b_4c), i_5, ())) (fun s w => I s.1.1 s.1.2.1 s.1.2.2 s.2.1.1 s.2.1.2.1 s.2.1.2.2 s.2.2.1 w) (fun s w => μ s.1.1 s.1.2.1 s.1.2.2 s.2.1.1 s.2.1.2.1 s.2.1.2.2 s.2.2.1 w) h (fun s w h => hr s.1.1 s.1.2.1 s.1.2.2 s.2.1.1 s.2.1.2.1 s.2.1.2.2 s.2.2.1 w h)
def F11 (k : Value → W) (a_1p : Option Addr) (a_1l : Nat) (a_1c : Nat) (b_2p : Option Addr) (b_2l : Nat) (b_2c : Nat) : W :=
 BIf (((a_1l : Nat) : Int) != ((b_2l : Nat) : Int)) (
  k (.bool false)) (
  Loop [.slice, .slice, (.int .i64)] (F11_L1 k) a_1p a_1l a_1c b_2p b_2l b_2c 0)
theorem F11_eq (k : Value → W) (a_1p : Option Addr) (a_1l : Nat) (a_1c : Nat) (b_2p : Option Addr) (b_2l : Nat) (b_2c : Nat) : compF Go.Proofs.Tryd.prog Go.Proofs.Tryd.f11 [(4, [(0, .slice), (1, .slice), (5, (.int .i64))])] (Go.Proofs.Tryd.f11.body.getD .skip) [.slice a_1p a_1l a_1c, .slice b_2p b_2l b_2c] k = F11 k a_1p a_1l a_1c b_2p b_2l b_2c := by kernel_rfl
theorem F11_calls {a_1p : Option Addr} {a_1l : Nat} {a_1c : Nat} {b_2p : Option Addr} {b_2l : Nat} {b_2c : Nat} {w : World} {R : Ending → World → Prop} (h : F11 (fun v w => R (.returned v) w) a_1p a_1l a_1c b_2p b_2l b_2c w) : Calls Go.Proofs.Tryd.prog 11 #[.slice a_1p a_1l a_1c, .slice b_2p b_2l b_2c] w R :=
  calls_of_compF noNum follows [(4, [(0, .slice), (1, .slice), (5, (.int .i64))])] (f := 11) (fn := Go.Proofs.Tryd.f11) (body := Go.Proofs.Tryd.f11.body.getD .skip) (args := [.slice a_1p a_1l a_1c, .slice b_2p b_2l b_2c]) rfl rfl (Nat.le_of_ble_eq_true rfl) ((congrFun (F11_eq _ a_1p a_1l a_1c b_2p b_2l b_2c) w).mpr h)
theorem F11_call {a_1p : Option Addr} {a_1l : Nat} {a_1c : Nat} {b_2p : Option Addr} {b_2l : Nat} {b_2c : Nat} {w : World} {g : Fn W (RTy.leaves (.s (.one .bool)))} (h : F11 (fun v => Back (.s (.one .bool)) g (.returned v)) a_1p a_1l a_1c b_2p b_2l b_2c w) : CallT Go.Proofs.Tryd.prog 11 [.slice a_1p a_1l a_1c, .slice b_2p b_2l b_2c] (.s (.one .bool)) g w := F11_calls h

/-! ## bitset.BitSet).Set -/
def F30_J1 (k : Value → W) (b_5 : Option Addr) (i_6 : Int) : W :=
 Drw <|
 NN b_5 fun a7 =>
 LoadT .slice (a7.add 1) fun s8p s8l s8c =>
 NN s8p fun a9 =>
 Req (0 ≤ shrI .u64 i_6 6 ∧ shrI .u64 i_6 6 < ((s8l : Nat) : Int)) <|
 LoadT (.int .u64) (a9.add ((shrI .u64 i_6 6).toNat)) fun x10 =>
 CallT Go.Proofs.Tryd.prog 52 [.int .u64 i_6] (.s (.one (.int .u64))) fun x11 =>
 Chk1 (a9.add ((shrI .u64 i_6 6).toNat)) (.int .u64 x10) <|
 Chk1 (a7.add 1) (.slice s8p s8l s8c) <|
 Req (0 ≤ x11) <|
 NN s8p fun a12 =>
 Req (0 ≤ shrI .u64 i_6 6 ∧ shrI .u64 i_6 6 < ((s8l : Nat) : Int)) <|
 Store1 (a12.add ((shrI .u64 i_6 6).toNat)) (.int .u64 (orI .u64 x10 (shlI .u64 1 x11.toNat))) <|
 k (.pointer b_5)
def F30 (k : Value → W) (b_1 : Option Addr) (i_2 : Int) : W :=
 NN b_1 fun a3 =>
 LoadT (.int .u64) a3 fun x4 =>
 BIf (decide (i_2 ≥ x4)) (
  CallT Go.Proofs.Tryd.prog 51 [.pointer b_1, .int .u64 i_2] (.tup []) <|
  F30_J1 k b_1 i_2) (
  F30_J1 k b_1 i_2)
theorem F30_eq (k : Value → W) (b_1 : Option Addr) (i_2 : Int) : compF Go.Proofs.Tryd.prog Go.Proofs.Tryd.f30 [] (Go.Proofs.Tryd.f30.body.getD .skip) [.pointer b_1, .int .u64 i_2] k = F30 k b_1 i_2 := by kernel_rfl
theorem F30_calls {b_1 : Option Addr} {i_2 : Int} {w : World} {R : Ending → World → Prop} (h : F30 (fun v w => R (.returned v) w) b_1 i_2 w) : Calls Go.Proofs.Tryd.prog 30 #[.pointer b_1, .int .u64 i_2] w R :=
  calls_of_compF noNum follows [] (f := 30) (fn := Go.Proofs.Tryd.f30) (body := Go.Proofs.Tryd.f30.body.getD .skip) (args := [.pointer b_1, .int .u64 i_2]) rfl rfl (Nat.le_of_ble_eq_true rfl) ((congrFun (F30_eq _ b_1 i_2) w).mpr h)
theorem F30_call {b_1 : Option Addr} {i_2 : Int} {w : World} {g : Fn W (RTy.leaves (.s (.one .ptr)))} (h : F30 (fun v => Back (.s (.one .ptr)) g (.returned v)) b_1 i_2 w) : CallT Go.Proofs.Tryd.prog 30 [.pointer b_1, .int .u64 i_2] (.s (.one .ptr)) g w := F30_calls h

/-! ## bitset.BitSet).Len -/
def F44 (k : Value → W) (b_1 : Option Addr) : W :=
 NN b_1 fun a2 =>
 LoadT (.int .u64) a2 fun x3 =>
 k (.int .u64 x3)
theorem F44_eq (k : Value → W) (b_1 : Option Addr) : compF Go.Proofs.Tryd.prog Go.Proofs.Tryd.f44 [] (Go.Proofs.Tryd.f44.body.getD .skip) [.pointer b_1] k = F44 k b_1 := by kernel_rfl
theorem F44_calls {b_1 : Option Addr} {w : World} {R : Ending → World → Prop} (h : F44 (fun v w => R (.returned v) w) b_1 w) : Calls Go.Proofs.Tryd.prog 44 #[.pointer b_1] w R :=
  calls_of_compF noNum follows [] (f := 44) (fn := Go.Proofs.Tryd.f44) (body := Go.Proofs.Tryd.f44.body.getD .skip) (args := [.pointer b_1]) rfl rfl (Nat.le_of_ble_eq_true rfl) ((congrFun (F44_eq _ b_1) w).mpr h)
theorem F44_call {b_1 : Option Addr} {w : World} {g : Fn W (RTy.leaves (.s (.one (.int .u64))))} (h : F44 (fun v => Back (.s (.one (.int .u64))) g (.returned v)) b_1 w) : CallT Go.Proofs.Tryd.prog 44 [.pointer b_1] (.s (.one (.int .u64))) g w := F44_calls h

/-! ## bitset.wordsIndex -/
def F52 (k : Value → W) (i_1 : Int) : W :=
 k (.int .u64 (andI .u64 i_1 63))
theorem F52_eq (k : Value → W) (i_1 : Int) : compF Go.Proofs.Tryd.prog Go.Proofs.Tryd.f52 [] (Go.Proofs.Tryd.f52.body.getD .skip) [.int .u64 i_1] k = F52 k i_1 := by kernel_rfl
theorem F52_calls {i_1 : Int} {w : World} {R : Ending → World → Prop} (h : F52 (fun v w => R (.returned v) w) i_1 w) : Calls Go.Proofs.Tryd.prog 52 #[.int .u64 i_1] w R :=
  calls_of_compF noNum follows [] (f := 52) (fn := Go.Proofs.Tryd.f52) (body := Go.Proofs.Tryd.f52.body.getD .skip) (args := [.int .u64 i_1]) rfl rfl (Nat.le_of_ble_eq_true rfl) ((congrFun (F52_eq _ i_1) w).mpr h)
theorem F52_call {i_1 : Int} {w : World} {g : Fn W (RTy.leaves (.s (.one (.int .u64))))} (h : F52 (fun v => Back (.s (.one (.int .u64))) g (.returned v)) i_1 w) : CallT Go.Proofs.Tryd.prog 52 [.int .u64 i_1] (.s (.one (.int .u64))) g w := F52_calls h

/-! ## bitset.BitSet).extendSet -/
def F51_J1 (k : Value → W) (b_9 : Option Addr) (i_10 : Int) : W :=
 NN b_9 fun a11 =>
 Store1 a11 (.int .u64 (addI .u64 i_10 1)) <|
 k (.tuple #[])
def F51_L1 (k : Value → W) (again26 : Option Addr → Int → Option Addr → Nat → Nat → Int → Int → W) (b_21 : Option Addr) (i_22 : Int) (newWords_23p : Option Addr) (newWords_23l : Nat) (newWords_23c : Nat) (x24 : Int) (x25 : Int) : W :=
 BIf (decide (x25 < x24)) (
  NN newWords_23p fun a27 =>
  Req (0 ≤ x25 ∧ x25 < ((newWords_23l : Nat) : Int)) <|
  Store1 (a27.add x25.toNat) (.int .u64 0) <|
  again26 b_21 i_22 newWords_23p newWords_23l newWords_23c x24 (addI .i64 x25 1)) (
  F51_J1 k b_21 i_22)
theorem F51_L1_rule {k : Value → W} (I : Option Addr → Int → Option Addr → Nat → Nat → Int → Int → W) (μ : Option Addr → Int → Option Addr → Nat → Nat → Int → Int → World → Nat)
  (hr : ∀ (b_21 : Option Addr) (i_22 : Int) (newWords_23p : Option Addr) (newWords_23l : Nat) (newWords_23c : Nat) (x24 : Int) (x25 : Int) (w : World), I b_21 i_22 newWords_23p newWords_23l newWords_23c x24 x25 w → F51_L1 k (fun b_21' i_22' newWords_23p' newWords_23l' newWords_23c' x24' x25' w' => I b_21' i_22' newWords_23p' newWords_23l' newWords_23c' x24' x25' w' ∧ μ b_21' i_22' newWords_23p' newWords_23l' newWords_23c' x24' x25' w' < μ b_21 i_22 newWords_23p newWords_23l newWords_23c x24 x25 w) b_21 i_22 newWords_23p newWords_23l newWords_23c x24 x25 w)
  {w : World} {b_21 : Option Addr} {i_22 : Int} {newWords_23p : Option Addr} {newWords_23l : Nat} {newWords_23c : Nat} {x24 : Int} {x25 : Int} (h : I b_21 i_22 newWords_23p newWords_23l newWords_23c x24 x25 w) : Loop [.ptr, (.int .u64), .slice, (.int .i64), (.int .i64)] (F51_L1 k) b_21 i_22 newWords_23p newWords_23l newWords_23c x24 x25 w :=
  Loop_intro (ts := [.ptr, (.int .u64), .slice, (.int .i64), (.int .i64)]) (s := (b_21, i_22, (newWords_23p, newWords_23l, newWords_23c), x24, x25, ())) (fun s w => I s.1 s.2.1 s.2.2.1.1 s.2.2.1.2.1 s.2.2.1.2.2 s.2.2.2.1 s.2.2.2.2.1 w) (fun s w => μ s.1 s.2.1 s.2.2.1.1 s.2.2.1.2.1 s.2.2.1.2.2 s.2.2.2.1 s.2.2.2.2.1 w) h (fun s w h => hr s.1 s.2.1 s.2.2.1.1 s.2.2.1.2.1 s.2.2.1.2.2 s.2.2.2.1 s.2.2.2.2.1 w h)
def F51 (k : Value → W) (b_1 : Option Addr) (i_2 : Int) : W :=
 CallT Go.Proofs.Tryd.prog 64 [] (.s (.one (.int .u64))) fun x3 =>
 BIf (decide (i_2 ≥ x3)) (
  bot) (
  CallT Go.Proofs.Tryd.prog 63 [.int .u64 (addI .u64 i_2 1)] (.s (.one (.int .i64))) fun x4 =>
  NN b_1 fun a5 =>
  LoadT .slice (a5.add 1) fun s6p s6l s6c =>
  BIf s6p.isNone (
   RawT Go.Proofs.Tryd.prog (Instr.makeSlice 61 (.int .i64 x4) (.int .i64 x4)) (.s (.one .slice)) fun s7p s7l s7c =>
   NN b_1 fun a8 =>
   Store1 (a8.add 1) (.slice s7p s7l s7c) <|
   F51_J1 k b_1 i_2) (
   NN b_1 fun a12 =>
   LoadT .slice (a12.add 1) fun s13p s13l s13c =>
   BIf (decide (((s13c : Nat) : Int) ≥ x4)) (
    NN b_1 fun a14 =>
    LoadT .slice (a14.add 1) fun s15p s15l s15c =>
    NN b_1 fun a16 =>
    LoadT .slice (a16.add 1) fun s17p s17l s17c =>
    Req (0 ≤ x4 ∧ x4 ≤ ((s17c : Nat) : Int)) <|
    NN b_1 fun a18 =>
    Store1 (a18.add 1) (.slice (sliceA s17p 0 s17c 1) (x4.toNat - 0) (s17c - 0)) <|
    BIf (decide (((s15l : Nat) : Int) < x4)) (
     NN b_1 fun a19 =>
     LoadT .slice (a19.add 1) fun s20p s20l s20c =>
     Req (0 ≤ ((s15l : Nat) : Int) ∧ ((s15l : Nat) : Int) ≤ ((s20l : Nat) : Int)) <|
     Loop [.ptr, (.int .u64), .slice, (.int .i64), (.int .i64)] (F51_L1 k) b_1 i_2 (sliceA s20p ((((s15l : Nat) : Int)).toNat) s20c 1) (s20l - ((((s15l : Nat) : Int)).toNat)) (s20c - ((((s15l : Nat) : Int)).toNat)) ((s20l - ((((s15l : Nat) : Int)).toNat) : Nat) : Int) 0) (
     F51_J1 k b_1 i_2)) (
    NN b_1 fun a28 =>
    LoadT .slice (a28.add 1) fun s29p s29l s29c =>
    BIf (decide (((s29l : Nat) : Int) < x4)) (
     RawT Go.Proofs.Tryd.prog (Instr.makeSlice 61 (.int .i64 x4) (.int .i64 (mulI .i64 2 x4))) (.s (.one .slice)) fun s30p s30l s30c =>
     NN b_1 fun a31 =>
     LoadT .slice (a31.add 1) fun s32p s32l s32c =>
     NextT Go.Proofs.Tryd.prog (builtin .copy #[61, 61] 3 [false, false].toArray [.slice s30p s30l s30c, .slice s32p s32l s32c].toArray) (.s (.one (.int .i64))) fun x33 =>
     NN b_1 fun a34 =>
     Store1 (a34.add 1) (.slice s30p s30l s30c) <|
     F51_J1 k b_1 i_2) (
     F51_J1 k b_1 i_2))))
theorem F51_eq (k : Value → W) (b_1 : Option Addr) (i_2 : Int) : compF Go.Proofs.Tryd.prog Go.Proofs.Tryd.f51 [(11, [(0, .ptr), (1, (.int .u64)), (6, .slice), (57, (.int .i64)), (58, (.int .i64))])] (Go.Proofs.Tryd.f51.body.getD .skip) [.pointer b_1, .int .u64 i_2] k = F51 k b_1 i_2 := by kernel_rfl
theorem F51_calls {b_1 : Option Addr} {i_2 : Int} {w : World} {R : Ending → World → Prop} (h : F51 (fun v w => R (.returned v) w) b_1 i_2 w) : Calls Go.Proofs.Tryd.prog 51 #[.pointer b_1, .int .u64 i_2] w R :=
  calls_of_compF noNum follows [(11, [(0, .ptr), (1, (.int .u64)), (6, .slice), (57, (.int .i64)), (58, (.int .i64))])] (f := 51) (fn := Go.Proofs.Tryd.f51) (body := Go.Proofs.Tryd.f51.body.getD .skip) (args := [.pointer b_1, .int .u64 i_2]) rfl rfl (Nat.le_of_ble_eq_true rfl) ((congrFun (F51_eq _ b_1 i_2) w).mpr h)
theorem F51_call {b_1 : Option Addr} {i_2 : Int} {w : World} {g : Fn W (RTy.leaves (.tup []))} (h : F51 (fun v => Back (.tup []) g (.returned v)) b_1 i_2 w) : CallT Go.Proofs.Tryd.prog 51 [.pointer b_1, .int .u64 i_2] (.tup []) g w := F51_calls h

/-! ## bitset.wordsNeeded -/
def F63 (k : Value → W) (i_1 : Int) : W :=
 CallT Go.Proofs.Tryd.prog 64 [] (.s (.one (.int .u64))) fun x2 =>
 BIf (decide (i_1 > (subI .u64 x2 63))) (
  CallT Go.Proofs.Tryd.prog 64 [] (.s (.one (.int .u64))) fun x3 =>
  Bind (IntKind.wrap .i64 (shrI .u64 x3 6) : Int) fun y4 =>
  k (.int .i64 y4)) (
  Bind (IntKind.wrap .i64 (shrI .u64 (addI .u64 i_1 63) 6) : Int) fun y5 =>
  k (.int .i64 y5))
theorem F63_eq (k : Value → W) (i_1 : Int) : compF Go.Proofs.Tryd.prog Go.Proofs.Tryd.f63 [] (Go.Proofs.Tryd.f63.body.getD .skip) [.int .u64 i_1] k = F63 k i_1 := by kernel_rfl
theorem F63_calls {i_1 : Int} {w : World} {R : Ending → World → Prop} (h : F63 (fun v w => R (.returned v) w) i_1 w) : Calls Go.Proofs.Tryd.prog 63 #[.int .u64 i_1] w R :=
  calls_of_compF noNum follows [] (f := 63) (fn := Go.Proofs.Tryd.f63) (body := Go.Proofs.Tryd.f63.body.getD .skip) (args := [.int .u64 i_1]) rfl rfl (Nat.le_of_ble_eq_true rfl) ((congrFun (F63_eq _ i_1) w).mpr h)
theorem F63_call {i_1 : Int} {w : World} {g : Fn W (RTy.leaves (.s (.one (.int .i64))))} (h : F63 (fun v => Back (.s (.one (.int .i64))) g (.returned v)) i_1 w) : CallT Go.Proofs.Tryd.prog 63 [.int .u64 i_1] (.s (.one (.int .i64))) g w := F63_calls h

/-! ## bitset.Cap -/
def F64 (k : Value → W) : W :=
 k (.int .u64 18446744073709551615)
theorem F64_eq (k : Value → W) : compF Go.Proofs.Tryd.prog Go.Proofs.Tryd.f64 [] (Go.Proofs.Tryd.f64.body.getD .skip) [] k = F64 k  := by kernel_rfl
theorem F64_calls {w : World} {R : Ending → World → Prop} (h : F64 (fun v w => R (.returned v) w)  w) : Calls Go.Proofs.Tryd.prog 64 #[] w R :=
  calls_of_compF noNum follows [] (f := 64) (fn := Go.Proofs.Tryd.f64) (body := Go.Proofs.Tryd.f64.body.getD .skip) (args := []) rfl rfl (Nat.le_of_ble_eq_true rfl) ((congrFun (F64_eq _ ) w).mpr h)
theorem F64_call {w : World} {g : Fn W (RTy.leaves (.s (.one (.int .u64))))} (h : F64 (fun v => Back (.s (.one (.int .u64))) g (.returned v))  w) : CallT Go.Proofs.Tryd.prog 64 [] (.s (.one (.int .u64))) g w := F64_calls h

end Go.Proofs.YtopdlfecfgimpaaDoor.E
