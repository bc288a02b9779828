/-
  Printed by this session's own program eng.py out of Lean's print of the loaded functions: what each function's body asks, in the engine's words; each is checked against the program by the kernel.
-/
import Derived.Test.YtopdlfecfgimpaaDoorEng
import Derived.Test.YtopdlfecfgimpaaDoorFnsA
namespace Go.Proofs.YtopdlfecfgimpaaDoor.E
open Go
set_option linter.unusedVariables false
set_option maxRecDepth 100000
/-! ## bits.TrailingZeros64 -/
def F53 (k : Value → W) (x_1 : Int) : W :=
 BIf (x_1 == 0) (
  k (.int .i64 64)) (
  Req (0 ≤ shrI .u64 (mulI .u64 (andI .u64 x_1 (subI .u64 0 x_1)) 285870213051353865) 58 ∧ shrI .u64 (mulI .u64 (andI .u64 x_1 (subI .u64 0 x_1)) 285870213051353865) 58 < (64 : Int)) <|
  LoadT (.int .u8) ((⟨0, 0, none⟩ : Addr).add ((shrI .u64 (mulI .u64 (andI .u64 x_1 (subI .u64 0 x_1)) 285870213051353865) 58).toNat)) fun x2 =>
  k (.int .i64 (IntKind.wrap .i64 x2)))
theorem F53_eq (k : Value → W) (x_1 : Int) : compF Go.Proofs.Tryd.prog Go.Proofs.Tryd.f53 [] (Go.Proofs.Tryd.f53.body.getD .skip) [.int .u64 x_1] k = F53 k x_1 := by kernel_rfl
theorem F53_calls {x_1 : Int} {w : World} {R : Ending → World → Prop} (h : F53 (fun v w => R (.returned v) w) x_1 w) : Calls Go.Proofs.Tryd.prog 53 #[.int .u64 x_1] w R :=
  calls_of_compF noNum follows [] (f := 53) (fn := Go.Proofs.Tryd.f53) (body := Go.Proofs.Tryd.f53.body.getD .skip) (args := [.int .u64 x_1]) rfl rfl (Nat.le_of_ble_eq_true rfl) ((congrFun (F53_eq _ x_1) w).mpr h)
theorem F53_call {x_1 : Int} {w : World} {g : Fn W (RTy.leaves (.s (.one (.int .i64))))} (h : F53 (fun v => Back (.s (.one (.int .i64))) g (.returned v)) x_1 w) : CallT Go.Proofs.Tryd.prog 53 [.int .u64 x_1] (.s (.one (.int .i64))) g w := F53_calls h

/-! ## bitset.BitSet).NextSet -/
def F33_L1 (k : Value → W) (again19 : Int → Option Addr → Nat → Nat → Int → Int → W) (x_15 : Int) (s16p : Option Addr) (s16l : Nat) (s16c : Nat) (x17 : Int) (x18 : Int) : W :=
 BIf (decide (x18 < x17)) (
  NN s16p fun a20 =>
  Req (0 ≤ x18 ∧ x18 < ((s16l : Nat) : Int)) <|
  LoadT (.int .u64) (a20.add x18.toNat) fun x21 =>
  BIf (x21 != 0) (
   CallT Go.Proofs.Tryd.prog 53 [.int .u64 x21] (.s (.one (.int .i64))) fun x22 =>
   Bind (IntKind.wrap .u64 (addI .i64 (shlI .i64 (addI .i64 x_15 x18) 6) x22) : Int) fun y23 =>
   k (.tuple #[.int .u64 y23, .bool true])) (
   again19 x_15 s16p s16l s16c x17 (addI .i64 x18 1))) (
  k (.tuple #[.int .u64 0, .bool false]))
theorem F33_L1_rule {k : Value → W} (I : Int → Option Addr → Nat → Nat → Int → Int → W) (μ : Int → Option Addr → Nat → Nat → Int → Int → World → Nat)
  (hr : ∀ (x_15 : Int) (s16p : Option Addr) (s16l : Nat) (s16c : Nat) (x17 : Int) (x18 : Int) (w : World), I x_15 s16p s16l s16c x17 x18 w → F33_L1 k (fun x_15' s16p' s16l' s16c' x17' x18' w' => I x_15' s16p' s16l' s16c' x17' x18' w' ∧ μ x_15' s16p' s16l' s16c' x17' x18' w' < μ x_15 s16p s16l s16c x17 x18 w) x_15 s16p s16l s16c x17 x18 w)
  {w : World} {x_15 : Int} {s16p : Option Addr} {s16l : Nat} {s16c : Nat} {x17 : Int} {x18 : Int} (h : I x_15 s16p s16l s16c x17 x18 w) : Loop [(.int .i64), .slice, (.int .i64), (.int .i64)] (F33_L1 k) x_15 s16p s16l s16c x17 x18 w :=
  Loop_intro (ts := [(.int .i64), .slice, (.int .i64), (.int .i64)]) (s := (x_15, (s16p, s16l, s16c), x17, x18, ())) (fun s w => I s.1 s.2.1.1 s.2.1.2.1 s.2.1.2.2 s.2.2.1 s.2.2.2.1 w) (fun s w => μ s.1 s.2.1.1 s.2.1.2.1 s.2.1.2.2 s.2.2.1 s.2.2.2.1 w) h (fun s w h => hr s.1 s.2.1.1 s.2.1.2.1 s.2.1.2.2 s.2.2.1 s.2.2.2.1 w h)
def F33 (k : Value → W) (b_1 : Option Addr) (i_2 : Int) : W :=
 Bind (IntKind.wrap .i64 (shrI .u64 i_2 6) : Int) fun x_3 =>
 NN b_1 fun a4 =>
 LoadT .slice (a4.add 1) fun s5p s5l s5c =>
 BIf (decide (x_3 ≥ ((s5l : Nat) : Int))) (
  k (.tuple #[.int .u64 0, .bool false])) (
  Drw <|
  NN b_1 fun a6 =>
  LoadT .slice (a6.add 1) fun s7p s7l s7c =>
  NN s7p fun a8 =>
  Req (0 ≤ x_3 ∧ x_3 < ((s7l : Nat) : Int)) <|
  LoadT (.int .u64) (a8.add x_3.toNat) fun x9 =>
  CallT Go.Proofs.Tryd.prog 52 [.int .u64 i_2] (.s (.one (.int .u64))) fun x10 =>
  Chk1 (a8.add x_3.toNat) (.int .u64 x9) <|
  Chk1 (a6.add 1) (.slice s7p s7l s7c) <|
  Req (0 ≤ x10) <|
  BIf ((shrI .u64 x9 x10.toNat) != 0) (
   CallT Go.Proofs.Tryd.prog 53 [.int .u64 (shrI .u64 x9 x10.toNat)] (.s (.one (.int .i64))) fun x11 =>
   Bind (addI .u64 i_2 (IntKind.wrap .u64 x11) : Int) fun y12 =>
   k (.tuple #[.int .u64 y12, .bool true])) (
   NN b_1 fun a13 =>
   LoadT .slice (a13.add 1) fun s14p s14l s14c =>
   Req (0 ≤ addI .i64 x_3 1 ∧ addI .i64 x_3 1 ≤ ((s14l : Nat) : Int)) <|
   Loop [(.int .i64), .slice, (.int .i64), (.int .i64)] (F33_L1 k) (addI .i64 x_3 1) (sliceA s14p ((addI .i64 x_3 1).toNat) s14c 1) (s14l - ((addI .i64 x_3 1).toNat)) (s14c - ((addI .i64 x_3 1).toNat)) ((s14l - ((addI .i64 x_3 1).toNat) : Nat) : Int) 0))
theorem F33_eq (k : Value → W) (b_1 : Option Addr) (i_2 : Int) : compF Go.Proofs.Tryd.prog Go.Proofs.Tryd.f33 [(9, [(6, (.int .i64)), (44, .slice), (45, (.int .i64)), (46, (.int .i64))])] (Go.Proofs.Tryd.f33.body.getD .skip) [.pointer b_1, .int .u64 i_2] k = F33 k b_1 i_2 := by kernel_rfl
theorem F33_calls {b_1 : Option Addr} {i_2 : Int} {w : World} {R : Ending → World → Prop} (h : F33 (fun v w => R (.returned v) w) b_1 i_2 w) : Calls Go.Proofs.Tryd.prog 33 #[.pointer b_1, .int .u64 i_2] w R :=
  calls_of_compF noNum follows [(9, [(6, (.int .i64)), (44, .slice), (45, (.int .i64)), (46, (.int .i64))])] (f := 33) (fn := Go.Proofs.Tryd.f33) (body := Go.Proofs.Tryd.f33.body.getD .skip) (args := [.pointer b_1, .int .u64 i_2]) rfl rfl (Nat.le_of_ble_eq_true rfl) ((congrFun (F33_eq _ b_1 i_2) w).mpr h)
theorem F33_call {b_1 : Option Addr} {i_2 : Int} {w : World} {g : Fn W (RTy.leaves (.tup [(.one (.int .u64)), (.one .bool)]))} (h : F33 (fun v => Back (.tup [(.one (.int .u64)), (.one .bool)]) g (.returned v)) b_1 i_2 w) : CallT Go.Proofs.Tryd.prog 33 [.pointer b_1, .int .u64 i_2] (.tup [(.one (.int .u64)), (.one .bool)]) g w := F33_calls h

/-! ## impl.BSNextSet -/
def F10 (k : Value → W) (x1 : Int) (s2p : Option Addr) (s2l : Nat) (s2c : Nat) (i_3 : Int) : W :=
 New [.int .u64 x1, .slice s2p s2l s2c] 25 fun n4 =>
 LoadT (.int .u64) ⟨n4, 0, none⟩ fun x5 =>
 LoadT .slice ⟨n4, 1, none⟩ fun s6p s6l s6c =>
 CallT Go.Proofs.Tryd.prog 29 [.agg #[.int .u64 x5, .slice s6p s6l s6c]] (.s (.one .ptr)) fun p7 =>
 CallT Go.Proofs.Tryd.prog 33 [.pointer p7, .int .u64 i_3] (.tup [(.one (.int .u64)), (.one .bool)]) fun x8 b9 =>
 k (.tuple #[.int .u64 x8, .bool b9])
theorem F10_eq (k : Value → W) (x1 : Int) (s2p : Option Addr) (s2l : Nat) (s2c : Nat) (i_3 : Int) : compF Go.Proofs.Tryd.prog Go.Proofs.Tryd.f10 [] (Go.Proofs.Tryd.f10.body.getD .skip) [.agg #[.int .u64 x1, .slice s2p s2l s2c], .int .u64 i_3] k = F10 k x1 s2p s2l s2c i_3 := by kernel_rfl
theorem F10_calls {x1 : Int} {s2p : Option Addr} {s2l : Nat} {s2c : Nat} {i_3 : Int} {w : World} {R : Ending → World → Prop} (h : F10 (fun v w => R (.returned v) w) x1 s2p s2l s2c i_3 w) : Calls Go.Proofs.Tryd.prog 10 #[.agg #[.int .u64 x1, .slice s2p s2l s2c], .int .u64 i_3] w R :=
  calls_of_compF noNum follows [] (f := 10) (fn := Go.Proofs.Tryd.f10) (body := Go.Proofs.Tryd.f10.body.getD .skip) (args := [.agg #[.int .u64 x1, .slice s2p s2l s2c], .int .u64 i_3]) rfl rfl (Nat.le_of_ble_eq_true rfl) ((congrFun (F10_eq _ x1 s2p s2l s2c i_3) w).mpr h)
theorem F10_call {x1 : Int} {s2p : Option Addr} {s2l : Nat} {s2c : Nat} {i_3 : Int} {w : World} {g : Fn W (RTy.leaves (.tup [(.one (.int .u64)), (.one .bool)]))} (h : F10 (fun v => Back (.tup [(.one (.int .u64)), (.one .bool)]) g (.returned v)) x1 s2p s2l s2c i_3 w) : CallT Go.Proofs.Tryd.prog 10 [.agg #[.int .u64 x1, .slice s2p s2l s2c], .int .u64 i_3] (.tup [(.one (.int .u64)), (.one .bool)]) g w := F10_calls h

/-! ## bitset.BitSet).AsSlice -/
def F34_L2 (k : Value → W) (again10 : Option Addr → Nat → Nat → Int → Option Addr → Nat → Nat → Int → Int → W) (again20 : Option Addr → Nat → Nat → Int → Int → Int → Option Addr → Nat → Nat → Int → Int → W) (buf_13p : Option Addr) (buf_13l : Nat) (buf_13c : Nat) (size_14 : Int) (idx_15 : Int) (word_16 : Int) (s17p : Option Addr) (s17l : Nat) (s17c : Nat) (x18 : Int) (x19 : Int) : W :=
 BIf (word_16 != 0) (
  CallT Go.Proofs.Tryd.prog 53 [.int .u64 word_16] (.s (.one (.int .i64))) fun x21 =>
  NN buf_13p fun a22 =>
  Req (0 ≤ size_14 ∧ size_14 < ((buf_13l : Nat) : Int)) <|
  Store1 (a22.add size_14.toNat) (.int .u64 (IntKind.wrap .u64 (addI .i64 (shlI .i64 idx_15 6) x21))) <|
  Bind (andI .u64 word_16 (subI .u64 word_16 1) : Int) fun word_23 =>
  again20 buf_13p buf_13l buf_13c (addI .i64 size_14 1) idx_15 word_23 s17p s17l s17c x18 x19) (
  again10 buf_13p buf_13l buf_13c size_14 s17p s17l s17c x18 (addI .i64 x19 1))
theorem F34_L2_rule {k : Value → W} {again10 : Option Addr → Nat → Nat → Int → Option Addr → Nat → Nat → Int → Int → W} (I : Option Addr → Nat → Nat → Int → Int → Int → Option Addr → Nat → Nat → Int → Int → W) (μ : Option Addr → Nat → Nat → Int → Int → Int → Option Addr → Nat → Nat → Int → Int → World → Nat)
  (hr : ∀ (buf_13p : Option Addr) (buf_13l : Nat) (buf_13c : Nat) (size_14 : Int) (idx_15 : Int) (word_16 : Int) (s17p : Option Addr) (s17l : Nat) (s17c : Nat) (x18 : Int) (x19 : Int) (w : World), I buf_13p buf_13l buf_13c size_14 idx_15 word_16 s17p s17l s17c x18 x19 w → F34_L2 k again10 (fun buf_13p' buf_13l' buf_13c' size_14' idx_15' word_16' s17p' s17l' s17c' x18' x19' w' => I buf_13p' buf_13l' buf_13c' size_14' idx_15' word_16' s17p' s17l' s17c' x18' x19' w' ∧ μ buf_13p' buf_13l' buf_13c' size_14' idx_15' word_16' s17p' s17l' s17c' x18' x19' w' < μ buf_13p buf_13l buf_13c size_14 idx_15 word_16 s17p s17l s17c x18 x19 w) buf_13p buf_13l buf_13c size_14 idx_15 word_16 s17p s17l s17c x18 x19 w)
  {w : World} {buf_13p : Option Addr} {buf_13l : Nat} {buf_13c : Nat} {size_14 : Int} {idx_15 : Int} {word_16 : Int} {s17p : Option Addr} {s17l : Nat} {s17c : Nat} {x18 : Int} {x19 : Int} (h : I buf_13p buf_13l buf_13c size_14 idx_15 word_16 s17p s17l s17c x18 x19 w) : Loop [.slice, (.int .i64), (.int .i64), (.int .u64), .slice, (.int .i64), (.int .i64)] (F34_L2 k again10) buf_13p buf_13l buf_13c size_14 idx_15 word_16 s17p s17l s17c x18 x19 w :=
  Loop_intro (ts := [.slice, (.int .i64), (.int .i64), (.int .u64), .slice, (.int .i64), (.int .i64)]) (s := ((buf_13p, buf_13l, buf_13c), size_14, idx_15, word_16, (s17p, s17l, s17c), x18, x19, ())) (fun s w => I s.1.1 s.1.2.1 s.1.2.2 s.2.1 s.2.2.1 s.2.2.2.1 s.2.2.2.2.1.1 s.2.2.2.2.1.2.1 s.2.2.2.2.1.2.2 s.2.2.2.2.2.1 s.2.2.2.2.2.2.1 w) (fun s w => μ s.1.1 s.1.2.1 s.1.2.2 s.2.1 s.2.2.1 s.2.2.2.1 s.2.2.2.2.1.1 s.2.2.2.2.1.2.1 s.2.2.2.2.1.2.2 s.2.2.2.2.2.1 s.2.2.2.2.2.2.1 w) h (fun s w h => hr s.1.1 s.1.2.1 s.1.2.2 s.2.1 s.2.2.1 s.2.2.2.1 s.2.2.2.2.1.1 s.2.2.2.2.1.2.1 s.2.2.2.2.1.2.2 s.2.2.2.2.2.1 s.2.2.2.2.2.2.1 w h)
def F34_L1 (k : Value → W) (again10 : Option Addr → Nat → Nat → Int → Option Addr → Nat → Nat → Int → Int → W) (buf_5p : Option Addr) (buf_5l : Nat) (buf_5c : Nat) (size_6 : Int) (s7p : Option Addr) (s7l : Nat) (s7c : Nat) (x8 : Int) (x9 : Int) : W :=
 BIf (decide (x9 < x8)) (
  NN s7p fun a11 =>
  Req (0 ≤ x9 ∧ x9 < ((s7l : Nat) : Int)) <|
  LoadT (.int .u64) (a11.add x9.toNat) fun x12 =>
  Loop [.slice, (.int .i64), (.int .i64), (.int .u64), .slice, (.int .i64), (.int .i64)] (F34_L2 k again10) buf_5p buf_5l buf_5c size_6 x9 x12 s7p s7l s7c x8 x9) (
  Req (0 ≤ size_6 ∧ size_6 ≤ ((buf_5c : Nat) : Int)) <|
  k (.slice (sliceA buf_5p 0 buf_5c 1) (size_6.toNat - 0) (buf_5c - 0)))
theorem F34_L1_rule {k : Value → W} (I : Option Addr → Nat → Nat → Int → Option Addr → Nat → Nat → Int → Int → W) (μ : Option Addr → Nat → Nat → Int → Option Addr → Nat → Nat → Int → Int → World → Nat)
  (hr : ∀ (buf_5p : Option Addr) (buf_5l : Nat) (buf_5c : Nat) (size_6 : Int) (s7p : Option Addr) (s7l : Nat) (s7c : Nat) (x8 : Int) (x9 : Int) (w : World), I buf_5p buf_5l buf_5c size_6 s7p s7l s7c x8 x9 w → F34_L1 k (fun buf_5p' buf_5l' buf_5c' size_6' s7p' s7l' s7c' x8' x9' w' => I buf_5p' buf_5l' buf_5c' size_6' s7p' s7l' s7c' x8' x9' w' ∧ μ buf_5p' buf_5l' buf_5c' size_6' s7p' s7l' s7c' x8' x9' w' < μ buf_5p buf_5l buf_5c size_6 s7p s7l s7c x8 x9 w) buf_5p buf_5l buf_5c size_6 s7p s7l s7c x8 x9 w)
  {w : World} {buf_5p : Option Addr} {buf_5l : Nat} {buf_5c : Nat} {size_6 : Int} {s7p : Option Addr} {s7l : Nat} {s7c : Nat} {x8 : Int} {x9 : Int} (h : I buf_5p buf_5l buf_5c size_6 s7p s7l s7c x8 x9 w) : Loop [.slice, (.int .i64), .slice, (.int .i64), (.int .i64)] (F34_L1 k) buf_5p buf_5l buf_5c size_6 s7p s7l s7c x8 x9 w :=
  Loop_intro (ts := [.slice, (.int .i64), .slice, (.int .i64), (.int .i64)]) (s := ((buf_5p, buf_5l, buf_5c), size_6, (s7p, s7l, s7c), x8, x9, ())) (fun s w => I s.1.1 s.1.2.1 s.1.2.2 s.2.1 s.2.2.1.1 s.2.2.1.2.1 s.2.2.1.2.2 s.2.2.2.1 s.2.2.2.2.1 w) (fun s w => μ s.1.1 s.1.2.1 s.1.2.2 s.2.1 s.2.2.1.1 s.2.2.1.2.1 s.2.2.1.2.2 s.2.2.2.1 s.2.2.2.2.1 w) h (fun s w h => hr s.1.1 s.1.2.1 s.1.2.2 s.2.1 s.2.2.1.1 s.2.2.1.2.1 s.2.2.1.2.2 s.2.2.2.1 s.2.2.2.2.1 w h)
def F34 (k : Value → W) (b_1 : Option Addr) (buf_2p : Option Addr) (buf_2l : Nat) (buf_2c : Nat) : W :=
 Req (0 ≤ ((buf_2c : Nat) : Int) ∧ ((buf_2c : Nat) : Int) ≤ ((buf_2c : Nat) : Int)) <|
 NN b_1 fun a3 =>
 LoadT .slice (a3.add 1) fun s4p s4l s4c =>
 Loop [.slice, (.int .i64), .slice, (.int .i64), (.int .i64)] (F34_L1 k) (sliceA buf_2p 0 buf_2c 1) (((((buf_2c : Nat) : Int)).toNat) - 0) (buf_2c - 0) 0 s4p s4l s4c ((s4l : Nat) : Int) 0
theorem F34_eq (k : Value → W) (b_1 : Option Addr) (buf_2p : Option Addr) (buf_2l : Nat) (buf_2c : Nat) : compF Go.Proofs.Tryd.prog Go.Proofs.Tryd.f34 [(4, [(1, .slice), (5, (.int .i64)), (15, .slice), (16, (.int .i64)), (17, (.int .i64))]), (6, [(1, .slice), (5, (.int .i64)), (6, (.int .i64)), (7, (.int .u64)), (15, .slice), (16, (.int .i64)), (17, (.int .i64))])] (Go.Proofs.Tryd.f34.body.getD .skip) [.pointer b_1, .slice buf_2p buf_2l buf_2c] k = F34 k b_1 buf_2p buf_2l buf_2c := by kernel_rfl
theorem F34_calls {b_1 : Option Addr} {buf_2p : Option Addr} {buf_2l : Nat} {buf_2c : Nat} {w : World} {R : Ending → World → Prop} (h : F34 (fun v w => R (.returned v) w) b_1 buf_2p buf_2l buf_2c w) : Calls Go.Proofs.Tryd.prog 34 #[.pointer b_1, .slice buf_2p buf_2l buf_2c] w R :=
  calls_of_compF noNum follows [(4, [(1, .slice), (5, (.int .i64)), (15, .slice), (16, (.int .i64)), (17, (.int .i64))]), (6, [(1, .slice), (5, (.int .i64)), (6, (.int .i64)), (7, (.int .u64)), (15, .slice), (16, (.int .i64)), (17, (.int .i64))])] (f := 34) (fn := Go.Proofs.Tryd.f34) (body := Go.Proofs.Tryd.f34.body.getD .skip) (args := [.pointer b_1, .slice buf_2p buf_2l buf_2c]) rfl rfl (Nat.le_of_ble_eq_true rfl) ((congrFun (F34_eq _ b_1 buf_2p buf_2l buf_2c) w).mpr h)
theorem F34_call {b_1 : Option Addr} {buf_2p : Option Addr} {buf_2l : Nat} {buf_2c : Nat} {w : World} {g : Fn W (RTy.leaves (.s (.one .slice)))} (h : F34 (fun v => Back (.s (.one .slice)) g (.returned v)) b_1 buf_2p buf_2l buf_2c w) : CallT Go.Proofs.Tryd.prog 34 [.pointer b_1, .slice buf_2p buf_2l buf_2c] (.s (.one .slice)) g w := F34_calls h

/-! ## impl.BSAsSlice -/
def F12 (k : Value → W) (x1 : Int) (s2p : Option Addr) (s2l : Nat) (s2c : Nat) : W :=
 New [.int .u64 x1, .slice s2p s2l s2c] 25 fun n3 =>
 LoadT (.int .u64) ⟨n3, 0, none⟩ fun x4 =>
 LoadT .slice ⟨n3, 1, none⟩ fun s5p s5l s5c =>
 CallT Go.Proofs.Tryd.prog 29 [.agg #[.int .u64 x4, .slice s5p s5l s5c]] (.s (.one .ptr)) fun p6 =>
 CallT Go.Proofs.Tryd.prog 35 [.pointer p6] (.s (.one (.int .u64))) fun x7 =>
 RawT Go.Proofs.Tryd.prog (Instr.makeSlice 23 (.int .u64 x7) (.int .u64 x7)) (.s (.one .slice)) fun s8p s8l s8c =>
 CallT Go.Proofs.Tryd.prog 34 [.pointer p6, .slice s8p s8l s8c] (.s (.one .slice)) fun s9p s9l s9c =>
 k (.slice s9p s9l s9c)
theorem F12_eq (k : Value → W) (x1 : Int) (s2p : Option Addr) (s2l : Nat) (s2c : Nat) : compF Go.Proofs.Tryd.prog Go.Proofs.Tryd.f12 [] (Go.Proofs.Tryd.f12.body.getD .skip) [.agg #[.int .u64 x1, .slice s2p s2l s2c]] k = F12 k x1 s2p s2l s2c := by kernel_rfl
theorem F12_calls {x1 : Int} {s2p : Option Addr} {s2l : Nat} {s2c : Nat} {w : World} {R : Ending → World → Prop} (h : F12 (fun v w => R (.returned v) w) x1 s2p s2l s2c w) : Calls Go.Proofs.Tryd.prog 12 #[.agg #[.int .u64 x1, .slice s2p s2l s2c]] w R :=
  calls_of_compF noNum follows [] (f := 12) (fn := Go.Proofs.Tryd.f12) (body := Go.Proofs.Tryd.f12.body.getD .skip) (args := [.agg #[.int .u64 x1, .slice s2p s2l s2c]]) rfl rfl (Nat.le_of_ble_eq_true rfl) ((congrFun (F12_eq _ x1 s2p s2l s2c) w).mpr h)
theorem F12_call {x1 : Int} {s2p : Option Addr} {s2l : Nat} {s2c : Nat} {w : World} {g : Fn W (RTy.leaves (.s (.one .slice)))} (h : F12 (fun v => Back (.s (.one .slice)) g (.returned v)) x1 s2p s2l s2c w) : CallT Go.Proofs.Tryd.prog 12 [.agg #[.int .u64 x1, .slice s2p s2l s2c]] (.s (.one .slice)) g w := F12_calls h

/-! ## bitset.BitSet).AppendTo -/
def F36_L2 (k : Value → W) (again9 : Option Addr → Nat → Nat → Option Addr → Nat → Nat → Int → Int → W) (again18 : Option Addr → Nat → Nat → Int → Int → Option Addr → Nat → Nat → Int → Int → W) (buf_12p : Option Addr) (buf_12l : Nat) (buf_12c : Nat) (idx_13 : Int) (word_14 : Int) (s15p : Option Addr) (s15l : Nat) (s15c : Nat) (x16 : Int) (x17 : Int) : W :=
 BIf (word_14 != 0) (
  CallT Go.Proofs.Tryd.prog 53 [.int .u64 word_14] (.s (.one (.int .i64))) fun x19 =>
  RawT Go.Proofs.Tryd.prog (Instr.buildSlice 23 1 [(0, .int .u64 (IntKind.wrap .u64 (addI .i64 (shlI .i64 idx_13 6) x19)))].toArray) (.s (.one .slice)) fun s20p s20l s20c =>
  NextT Go.Proofs.Tryd.prog (builtin .append #[23, 23] 23 [false, false].toArray [.slice buf_12p buf_12l buf_12c, .slice s20p s20l s20c].toArray) (.s (.one .slice)) fun s21p s21l s21c =>
  Bind (andI .u64 word_14 (subI .u64 word_14 1) : Int) fun word_22 =>
  again18 s21p s21l s21c idx_13 word_22 s15p s15l s15c x16 x17) (
  again9 buf_12p buf_12l buf_12c s15p s15l s15c x16 (addI .i64 x17 1))
theorem F36_L2_rule {k : Value → W} {again9 : Option Addr → Nat → Nat → Option Addr → Nat → Nat → Int → Int → W} (I : Option Addr → Nat → Nat → Int → Int → Option Addr → Nat → Nat → Int → Int → W) (μ : Option Addr → Nat → Nat → Int → Int → Option Addr → Nat → Nat → Int → Int → World → Nat)
  (hr : ∀ (buf_12p : Option Addr) (buf_12l : Nat) (buf_12c : Nat) (idx_13 : Int) (word_14 : Int) (s15p : Option Addr) (s15l : Nat) (s15c : Nat) (x16 : Int) (x17 : Int) (w : World), I buf_12p buf_12l buf_12c idx_13 word_14 s15p s15l s15c x16 x17 w → F36_L2 k again9 (fun buf_12p' buf_12l' buf_12c' idx_13' word_14' s15p' s15l' s15c' x16' x17' w' => I buf_12p' buf_12l' buf_12c' idx_13' word_14' s15p' s15l' s15c' x16' x17' w' ∧ μ buf_12p' buf_12l' buf_12c' idx_13' word_14' s15p' s15l' s15c' x16' x17' w' < μ buf_12p buf_12l buf_12c idx_13 word_14 s15p s15l s15c x16 x17 w) buf_12p buf_12l buf_12c idx_13 word_14 s15p s15l s15c x16 x17 w)
  {w : World} {buf_12p : Option Addr} {buf_12l : Nat} {buf_12c : Nat} {idx_13 : Int} {word_14 : Int} {s15p : Option Addr} {s15l : Nat} {s15c : Nat} {x16 : Int} {x17 : Int} (h : I buf_12p buf_12l buf_12c idx_13 word_14 s15p s15l s15c x16 x17 w) : Loop [.slice, (.int .i64), (.int .u64), .slice, (.int .i64), (.int .i64)] (F36_L2 k again9) buf_12p buf_12l buf_12c idx_13 word_14 s15p s15l s15c x16 x17 w :=
  Loop_intro (ts := [.slice, (.int .i64), (.int .u64), .slice, (.int .i64), (.int .i64)]) (s := ((buf_12p, buf_12l, buf_12c), idx_13, word_14, (s15p, s15l, s15c), x16, x17, ())) (fun s w => I s.1.1 s.1.2.1 s.1.2.2 s.2.1 s.2.2.1 s.2.2.2.1.1 s.2.2.2.1.2.1 s.2.2.2.1.2.2 s.2.2.2.2.1 s.2.2.2.2.2.1 w) (fun s w => μ s.1.1 s.1.2.1 s.1.2.2 s.2.1 s.2.2.1 s.2.2.2.1.1 s.2.2.2.1.2.1 s.2.2.2.1.2.2 s.2.2.2.2.1 s.2.2.2.2.2.1 w) h (fun s w h => hr s.1.1 s.1.2.1 s.1.2.2 s.2.1 s.2.2.1 s.2.2.2.1.1 s.2.2.2.1.2.1 s.2.2.2.1.2.2 s.2.2.2.2.1 s.2.2.2.2.2.1 w h)
def F36_L1 (k : Value → W) (again9 : Option Addr → Nat → Nat → Option Addr → Nat → Nat → Int → Int → W) (buf_5p : Option Addr) (buf_5l : Nat) (buf_5c : Nat) (s6p : Option Addr) (s6l : Nat) (s6c : Nat) (x7 : Int) (x8 : Int) : W :=
 BIf (decide (x8 < x7)) (
  NN s6p fun a10 =>
  Req (0 ≤ x8 ∧ x8 < ((s6l : Nat) : Int)) <|
  LoadT (.int .u64) (a10.add x8.toNat) fun x11 =>
  Loop [.slice, (.int .i64), (.int .u64), .slice, (.int .i64), (.int .i64)] (F36_L2 k again9) buf_5p buf_5l buf_5c x8 x11 s6p s6l s6c x7 x8) (
  k (.slice buf_5p buf_5l buf_5c))
theorem F36_L1_rule {k : Value → W} (I : Option Addr → Nat → Nat → Option Addr → Nat → Nat → Int → Int → W) (μ : Option Addr → Nat → Nat → Option Addr → Nat → Nat → Int → Int → World → Nat)
  (hr : ∀ (buf_5p : Option Addr) (buf_5l : Nat) (buf_5c : Nat) (s6p : Option Addr) (s6l : Nat) (s6c : Nat) (x7 : Int) (x8 : Int) (w : World), I buf_5p buf_5l buf_5c s6p s6l s6c x7 x8 w → F36_L1 k (fun buf_5p' buf_5l' buf_5c' s6p' s6l' s6c' x7' x8' w' => I buf_5p' buf_5l' buf_5c' s6p' s6l' s6c' x7' x8' w' ∧ μ buf_5p' buf_5l' buf_5c' s6p' s6l' s6c' x7' x8' w' < μ buf_5p buf_5l buf_5c s6p s6l s6c x7 x8 w) buf_5p buf_5l buf_5c s6p s6l s6c x7 x8 w)
  {w : World} {buf_5p : Option Addr} {buf_5l : Nat} {buf_5c : Nat} {s6p : Option Addr} {s6l : Nat} {s6c : Nat} {x7 : Int} {x8 : Int} (h : I buf_5p buf_5l buf_5c s6p s6l s6c x7 x8 w) : Loop [.slice, .slice, (.int .i64), (.int .i64)] (F36_L1 k) buf_5p buf_5l buf_5c s6p s6l s6c x7 x8 w :=
  Loop_intro (ts := [.slice, .slice, (.int .i64), (.int .i64)]) (s := ((buf_5p, buf_5l, buf_5c), (s6p, s6l, s6c), x7, x8, ())) (fun s w => I s.1.1 s.1.2.1 s.1.2.2 s.2.1.1 s.2.1.2.1 s.2.1.2.2 s.2.2.1 s.2.2.2.1 w) (fun s w => μ s.1.1 s.1.2.1 s.1.2.2 s.2.1.1 s.2.1.2.1 s.2.1.2.2 s.2.2.1 s.2.2.2.1 w) h (fun s w h => hr s.1.1 s.1.2.1 s.1.2.2 s.2.1.1 s.2.1.2.1 s.2.1.2.2 s.2.2.1 s.2.2.2.1 w h)
def F36 (k : Value → W) (b_1 : Option Addr) (buf_2p : Option Addr) (buf_2l : Nat) (buf_2c : Nat) : W :=
 NN b_1 fun a3 =>
 LoadT .slice (a3.add 1) fun s4p s4l s4c =>
 Loop [.slice, .slice, (.int .i64), (.int .i64)] (F36_L1 k) buf_2p buf_2l buf_2c s4p s4l s4c ((s4l : Nat) : Int) 0
theorem F36_eq (k : Value → W) (b_1 : Option Addr) (buf_2p : Option Addr) (buf_2l : Nat) (buf_2c : Nat) : compF Go.Proofs.Tryd.prog Go.Proofs.Tryd.f36 [(2, [(1, .slice), (10, .slice), (11, (.int .i64)), (12, (.int .i64))]), (4, [(1, .slice), (5, (.int .i64)), (6, (.int .u64)), (10, .slice), (11, (.int .i64)), (12, (.int .i64))])] (Go.Proofs.Tryd.f36.body.getD .skip) [.pointer b_1, .slice buf_2p buf_2l buf_2c] k = F36 k b_1 buf_2p buf_2l buf_2c := by kernel_rfl
theorem F36_calls {b_1 : Option Addr} {buf_2p : Option Addr} {buf_2l : Nat} {buf_2c : Nat} {w : World} {R : Ending → World → Prop} (h : F36 (fun v w => R (.returned v) w) b_1 buf_2p buf_2l buf_2c w) : Calls Go.Proofs.Tryd.prog 36 #[.pointer b_1, .slice buf_2p buf_2l buf_2c] w R :=
  calls_of_compF noNum follows [(2, [(1, .slice), (10, .slice), (11, (.int .i64)), (12, (.int .i64))]), (4, [(1, .slice), (5, (.int .i64)), (6, (.int .u64)), (10, .slice), (11, (.int .i64)), (12, (.int .i64))])] (f := 36) (fn := Go.Proofs.Tryd.f36) (body := Go.Proofs.Tryd.f36.body.getD .skip) (args := [.pointer b_1, .slice buf_2p buf_2l buf_2c]) rfl rfl (Nat.le_of_ble_eq_true rfl) ((congrFun (F36_eq _ b_1 buf_2p buf_2l buf_2c) w).mpr h)
theorem F36_call {b_1 : Option Addr} {buf_2p : Option Addr} {buf_2l : Nat} {buf_2c : Nat} {w : World} {g : Fn W (RTy.leaves (.s (.one .slice)))} (h : F36 (fun v => Back (.s (.one .slice)) g (.returned v)) b_1 buf_2p buf_2l buf_2c w) : CallT Go.Proofs.Tryd.prog 36 [.pointer b_1, .slice buf_2p buf_2l buf_2c] (.s (.one .slice)) g w := F36_calls h

/-! ## impl.BSAppendTo -/
def F13 (k : Value → W) (x1 : Int) (s2p : Option Addr) (s2l : Nat) (s2c : Nat) (buf_3p : Option Addr) (buf_3l : Nat) (buf_3c : Nat) : W :=
 New [.int .u64 x1, .slice s2p s2l s2c] 25 fun n4 =>
 LoadT (.int .u64) ⟨n4, 0, none⟩ fun x5 =>
 LoadT .slice ⟨n4, 1, none⟩ fun s6p s6l s6c =>
 CallT Go.Proofs.Tryd.prog 29 [.agg #[.int .u64 x5, .slice s6p s6l s6c]] (.s (.one .ptr)) fun p7 =>
 NextT Go.Proofs.Tryd.prog (builtin .append #[23, 23] 23 [true, false].toArray [.slice none 0 0, .slice buf_3p buf_3l buf_3c].toArray) (.s (.one .slice)) fun s8p s8l s8c =>
 CallT Go.Proofs.Tryd.prog 36 [.pointer p7, .slice s8p s8l s8c] (.s (.one .slice)) fun s9p s9l s9c =>
 k (.slice s9p s9l s9c)
theorem F13_eq (k : Value → W) (x1 : Int) (s2p : Option Addr) (s2l : Nat) (s2c : Nat) (buf_3p : Option Addr) (buf_3l : Nat) (buf_3c : Nat) : compF Go.Proofs.Tryd.prog Go.Proofs.Tryd.f13 [] (Go.Proofs.Tryd.f13.body.getD .skip) [.agg #[.int .u64 x1, .slice s2p s2l s2c], .slice buf_3p buf_3l buf_3c] k = F13 k x1 s2p s2l s2c buf_3p buf_3l buf_3c := by kernel_rfl
theorem F13_calls {x1 : Int} {s2p : Option Addr} {s2l : Nat} {s2c : Nat} {buf_3p : Option Addr} {buf_3l : Nat} {buf_3c : Nat} {w : World} {R : Ending → World → Prop} (h : F13 (fun v w => R (.returned v) w) x1 s2p s2l s2c buf_3p buf_3l buf_3c w) : Calls Go.Proofs.Tryd.prog 13 #[.agg #[.int .u64 x1, .slice s2p s2l s2c], .slice buf_3p buf_3l buf_3c] w R :=
  calls_of_compF noNum follows [] (f := 13) (fn := Go.Proofs.Tryd.f13) (body := Go.Proofs.Tryd.f13.body.getD .skip) (args := [.agg #[.int .u64 x1, .slice s2p s2l s2c], .slice buf_3p buf_3l buf_3c]) rfl rfl (Nat.le_of_ble_eq_true rfl) ((congrFun (F13_eq _ x1 s2p s2l s2c buf_3p buf_3l buf_3c) w).mpr h)
theorem F13_call {x1 : Int} {s2p : Option Addr} {s2l : Nat} {s2c : Nat} {buf_3p : Option Addr} {buf_3l : Nat} {buf_3c : Nat} {w : World} {g : Fn W (RTy.leaves (.s (.one .slice)))} (h : F13 (fun v => Back (.s (.one .slice)) g (.returned v)) x1 s2p s2l s2c buf_3p buf_3l buf_3c w) : CallT Go.Proofs.Tryd.prog 13 [.agg #[.int .u64 x1, .slice s2p s2l s2c], .slice buf_3p buf_3l buf_3c] (.s (.one .slice)) g w := F13_calls h

/-! ## laws.FnBSDeepLists -/
def F3_J1 (k : Value → W) (a_30 : Addr) (l_31p : Option Addr) (l_31l : Nat) (l_31c : Nat) : W :=
 BIf (decide (((l_31l : Nat) : Int) > 0)) (
  LoadT (.int .u64) (a_30.add 0) fun x32 =>
  LoadT .slice (a_30.add 1) fun s33p s33l s33c =>
  CallT Go.Proofs.Tryd.prog 12 [.agg #[.int .u64 x32, .slice s33p s33l s33c]] (.s (.one .slice)) fun s34p s34l s34c =>
  CallT Go.Proofs.Tryd.prog 11 [.slice l_31p l_31l l_31c, .slice s34p s34l s34c] (.s (.one .bool)) fun b35 =>
  BIf b35 (
   LoadT (.int .u64) (a_30.add 0) fun x36 =>
   LoadT .slice (a_30.add 1) fun s37p s37l s37c =>
   CallT Go.Proofs.Tryd.prog 13 [.agg #[.int .u64 x36, .slice s37p s37l s37c], .slice none 0 0] (.s (.one .slice)) fun s38p s38l s38c =>
   CallT Go.Proofs.Tryd.prog 11 [.slice l_31p l_31l l_31c, .slice s38p s38l s38c] (.s (.one .bool)) fun b39 =>
   k (.bool b39)) (
   k (.bool false))) (
  k (.bool false))
def F3_L1 (k : Value → W) (again23 : Addr → Option Addr → Nat → Nat → Int → Bool → W) (a_19 : Addr) (l_20p : Option Addr) (l_20l : Nat) (l_20c : Nat) (i_21 : Int) (is_22 : Bool) : W :=
 BIf is_22 (
  BIf (decide (((l_20l : Nat) : Int) ≤ 400)) (
   RawT Go.Proofs.Tryd.prog (Instr.buildSlice 23 1 [(0, .int .u64 i_21)].toArray) (.s (.one .slice)) fun s24p s24l s24c =>
   NextT Go.Proofs.Tryd.prog (builtin .append #[23, 23] 23 [false, false].toArray [.slice l_20p l_20l l_20c, .slice s24p s24l s24c].toArray) (.s (.one .slice)) fun s25p s25l s25c =>
   LoadT (.int .u64) (a_19.add 0) fun x26 =>
   LoadT .slice (a_19.add 1) fun s27p s27l s27c =>
   CallT Go.Proofs.Tryd.prog 10 [.agg #[.int .u64 x26, .slice s27p s27l s27c], .int .u64 (addI .u64 i_21 1)] (.tup [(.one (.int .u64)), (.one .bool)]) fun x28 b29 =>
   again23 a_19 s25p s25l s25c x28 b29) (
   F3_J1 k a_19 l_20p l_20l l_20c)) (
  F3_J1 k a_19 l_20p l_20l l_20c)
theorem F3_L1_rule {k : Value → W} (I : Addr → Option Addr → Nat → Nat → Int → Bool → W) (μ : Addr → Option Addr → Nat → Nat → Int → Bool → World → Nat)
  (hr : ∀ (a_19 : Addr) (l_20p : Option Addr) (l_20l : Nat) (l_20c : Nat) (i_21 : Int) (is_22 : Bool) (w : World), I a_19 l_20p l_20l l_20c i_21 is_22 w → F3_L1 k (fun a_19' l_20p' l_20l' l_20c' i_21' is_22' w' => I a_19' l_20p' l_20l' l_20c' i_21' is_22' w' ∧ μ a_19' l_20p' l_20l' l_20c' i_21' is_22' w' < μ a_19 l_20p l_20l l_20c i_21 is_22 w) a_19 l_20p l_20l l_20c i_21 is_22 w)
  {w : World} {a_19 : Addr} {l_20p : Option Addr} {l_20l : Nat} {l_20c : Nat} {i_21 : Int} {is_22 : Bool} (h : I a_19 l_20p l_20l l_20c i_21 is_22 w) : Loop [.addr, .slice, (.int .u64), .bool] (F3_L1 k) a_19 l_20p l_20l l_20c i_21 is_22 w :=
  Loop_intro (ts := [.addr, .slice, (.int .u64), .bool]) (s := (a_19, (l_20p, l_20l, l_20c), i_21, is_22, ())) (fun s w => I s.1 s.2.1.1 s.2.1.2.1 s.2.1.2.2 s.2.2.1 s.2.2.2.1 w) (fun s w => μ s.1 s.2.1.1 s.2.1.2.1 s.2.1.2.2 s.2.2.1 s.2.2.2.1 w) h (fun s w h => hr s.1 s.2.1.1 s.2.1.2.1 s.2.1.2.2 s.2.2.1 s.2.2.2.1 w h)
def F3 (k : Value → W) (x1 : Int) (s2p : Option Addr) (s2l : Nat) (s2c : Nat) (at_3 : Int) : W :=
 New [.int .u64 x1, .slice s2p s2l s2c] 25 fun n4 =>
 LoadT (.int .u64) ⟨n4, 0, none⟩ fun x5 =>
 LoadT .slice ⟨n4, 1, none⟩ fun s6p s6l s6c =>
 CallT Go.Proofs.Tryd.prog 7 [.agg #[.int .u64 x5, .slice s6p s6l s6c]] (.s (.one .bool)) fun b7 =>
 BIf (!b7) (
  k (.bool true)) (
  LoadT (.int .u64) ⟨n4, 0, none⟩ fun x8 =>
  LoadT .slice ⟨n4, 1, none⟩ fun s9p s9l s9c =>
  CallT Go.Proofs.Tryd.prog 9 [.agg #[.int .u64 x8, .slice s9p s9l s9c]] (.s (.agg [(.int .u64), .slice])) fun x10 s11p s11l s11c =>
  Req (400 ≠ (0 : Int)) <|
  CallT Go.Proofs.Tryd.prog 8 [.agg #[.int .u64 x10, .slice s11p s11l s11c], .int .u64 (remI (IntKind.wrap .u64 at_3) 400)] (.s (.agg [(.int .u64), .slice])) fun x12 s13p s13l s13c =>
  New [.int .u64 0, .slice none 0 0] 25 fun n14 =>
  Store1 ⟨n14, 0, none⟩ (.int .u64 x12) <|
  Store1 ⟨n14, 1, none⟩ (.slice s13p s13l s13c) <|
  LoadT (.int .u64) ⟨n14, 0, none⟩ fun x15 =>
  LoadT .slice ⟨n14, 1, none⟩ fun s16p s16l s16c =>
  CallT Go.Proofs.Tryd.prog 10 [.agg #[.int .u64 x15, .slice s16p s16l s16c], .int .u64 0] (.tup [(.one (.int .u64)), (.one .bool)]) fun x17 b18 =>
  Loop [.addr, .slice, (.int .u64), .bool] (F3_L1 k) ⟨n14, 0, none⟩ none 0 0 x17 b18)
theorem F3_eq (k : Value → W) (x1 : Int) (s2p : Option Addr) (s2l : Nat) (s2c : Nat) (at_3 : Int) : compF Go.Proofs.Tryd.prog Go.Proofs.Tryd.f3 [(6, [(5, .addr), (6, .slice), (7, (.int .u64)), (8, .bool)])] (Go.Proofs.Tryd.f3.body.getD .skip) [.agg #[.int .u64 x1, .slice s2p s2l s2c], .int .u16 at_3] k = F3 k x1 s2p s2l s2c at_3 := by kernel_rfl
theorem F3_calls {x1 : Int} {s2p : Option Addr} {s2l : Nat} {s2c : Nat} {at_3 : Int} {w : World} {R : Ending → World → Prop} (h : F3 (fun v w => R (.returned v) w) x1 s2p s2l s2c at_3 w) : Calls Go.Proofs.Tryd.prog 3 #[.agg #[.int .u64 x1, .slice s2p s2l s2c], .int .u16 at_3] w R :=
  calls_of_compF noNum follows [(6, [(5, .addr), (6, .slice), (7, (.int .u64)), (8, .bool)])] (f := 3) (fn := Go.Proofs.Tryd.f3) (body := Go.Proofs.Tryd.f3.body.getD .skip) (args := [.agg #[.int .u64 x1, .slice s2p s2l s2c], .int .u16 at_3]) rfl rfl (Nat.le_of_ble_eq_true rfl) ((congrFun (F3_eq _ x1 s2p s2l s2c at_3) w).mpr h)
theorem F3_call {x1 : Int} {s2p : Option Addr} {s2l : Nat} {s2c : Nat} {at_3 : Int} {w : World} {g : Fn W (RTy.leaves (.s (.one .bool)))} (h : F3 (fun v => Back (.s (.one .bool)) g (.returned v)) x1 s2p s2l s2c at_3 w) : CallT Go.Proofs.Tryd.prog 3 [.agg #[.int .u64 x1, .slice s2p s2l s2c], .int .u16 at_3] (.s (.one .bool)) g w := F3_calls h

/-! ## bitset.BitSet).NextClear -/
def F37_L1 (k : Value → W) (again30 : Option Addr → Int → Option Addr → Nat → Nat → Int → Int → W) (b_25 : Option Addr) (x_26 : Int) (s27p : Option Addr) (s27l : Nat) (s27c : Nat) (x28 : Int) (x29 : Int) : W :=
 BIf (decide (x29 < x28)) (
  NN s27p fun a31 =>
  Req (0 ≤ x29 ∧ x29 < ((s27l : Nat) : Int)) <|
  LoadT (.int .u64) (a31.add x29.toNat) fun x32 =>
  BIf (x32 != 18446744073709551615) (
   CallT Go.Proofs.Tryd.prog 53 [.int .u64 (xorI .u64 (IntKind.max .u64) x32)] (.s (.one (.int .i64))) fun x33 =>
   Bind (IntKind.wrap .u64 (addI .i64 (shlI .i64 (addI .i64 x_26 x29) 6) x33) : Int) fun index_34 =>
   NN b_25 fun a35 =>
   LoadT (.int .u64) a35 fun x36 =>
   BIf (decide (index_34 < x36)) (
    k (.tuple #[.int .u64 index_34, .bool true])) (
    again30 b_25 x_26 s27p s27l s27c x28 (addI .i64 x29 1))) (
   again30 b_25 x_26 s27p s27l s27c x28 (addI .i64 x29 1))) (
  k (.tuple #[.int .u64 0, .bool false]))
theorem F37_L1_rule {k : Value → W} (I : Option Addr → Int → Option Addr → Nat → Nat → Int → Int → W) (μ : Option Addr → Int → Option Addr → Nat → Nat → Int → Int → World → Nat)
  (hr : ∀ (b_25 : Option Addr) (x_26 : Int) (s27p : Option Addr) (s27l : Nat) (s27c : Nat) (x28 : Int) (x29 : Int) (w : World), I b_25 x_26 s27p s27l s27c x28 x29 w → F37_L1 k (fun b_25' x_26' s27p' s27l' s27c' x28' x29' w' => I b_25' x_26' s27p' s27l' s27c' x28' x29' w' ∧ μ b_25' x_26' s27p' s27l' s27c' x28' x29' w' < μ b_25 x_26 s27p s27l s27c x28 x29 w) b_25 x_26 s27p s27l s27c x28 x29 w)
  {w : World} {b_25 : Option Addr} {x_26 : Int} {s27p : Option Addr} {s27l : Nat} {s27c : Nat} {x28 : Int} {x29 : Int} (h : I b_25 x_26 s27p s27l s27c x28 x29 w) : Loop [.ptr, (.int .i64), .slice, (.int .i64), (.int .i64)] (F37_L1 k) b_25 x_26 s27p s27l s27c x28 x29 w :=
  Loop_intro (ts := [.ptr, (.int .i64), .slice, (.int .i64), (.int .i64)]) (s := (b_25, x_26, (s27p, s27l, s27c), x28, x29, ())) (fun s w => I s.1 s.2.1 s.2.2.1.1 s.2.2.1.2.1 s.2.2.1.2.2 s.2.2.2.1 s.2.2.2.2.1 w) (fun s w => μ s.1 s.2.1 s.2.2.1.1 s.2.2.1.2.1 s.2.2.1.2.2 s.2.2.2.1 s.2.2.2.2.1 w) h (fun s w h => hr s.1 s.2.1 s.2.2.1.1 s.2.2.1.2.1 s.2.2.1.2.2 s.2.2.2.1 s.2.2.2.2.1 w h)
def F37_J1 (k : Value → W) (b_19 : Option Addr) (x_20 : Int) (index_21 : Int) (b22 : Bool) : W :=
 BIf b22 (
  k (.tuple #[.int .u64 index_21, .bool true])) (
  NN b_19 fun a23 =>
  LoadT .slice (a23.add 1) fun s24p s24l s24c =>
  Req (0 ≤ addI .i64 x_20 1 ∧ addI .i64 x_20 1 ≤ ((s24l : Nat) : Int)) <|
  Loop [.ptr, (.int .i64), .slice, (.int .i64), (.int .i64)] (F37_L1 k) b_19 (addI .i64 x_20 1) (sliceA s24p ((addI .i64 x_20 1).toNat) s24c 1) (s24l - ((addI .i64 x_20 1).toNat)) (s24c - ((addI .i64 x_20 1).toNat)) ((s24l - ((addI .i64 x_20 1).toNat) : Nat) : Int) 0)
def F37 (k : Value → W) (b_1 : Option Addr) (i_2 : Int) : W :=
 NN b_1 fun a3 =>
 LoadT (.int .u64) a3 fun x4 =>
 BIf (decide (i_2 ≥ x4)) (
  k (.tuple #[.int .u64 0, .bool false])) (
  Bind (IntKind.wrap .i64 (shrI .u64 i_2 6) : Int) fun x_5 =>
  NN b_1 fun a6 =>
  LoadT .slice (a6.add 1) fun s7p s7l s7c =>
  BIf (decide (x_5 ≥ ((s7l : Nat) : Int))) (
   k (.tuple #[.int .u64 0, .bool false])) (
   NN b_1 fun a8 =>
   LoadT .slice (a8.add 1) fun s9p s9l s9c =>
   NN s9p fun a10 =>
   Req (0 ≤ x_5 ∧ x_5 < ((s9l : Nat) : Int)) <|
   LoadT (.int .u64) (a10.add x_5.toNat) fun x11 =>
   CallT Go.Proofs.Tryd.prog 52 [.int .u64 i_2] (.s (.one (.int .u64))) fun x12 =>
   Req (0 ≤ x12) <|
   CallT Go.Proofs.Tryd.prog 52 [.int .u64 i_2] (.s (.one (.int .u64))) fun x13 =>
   Req (0 ≤ x13) <|
   Bind (shrI .u64 18446744073709551615 x13.toNat : Int) fun wordAll_14 =>
   CallT Go.Proofs.Tryd.prog 53 [.int .u64 (xorI .u64 (IntKind.max .u64) (shrI .u64 x11 x12.toNat))] (.s (.one (.int .i64))) fun x15 =>
   Bind (addI .u64 i_2 (IntKind.wrap .u64 x15) : Int) fun index_16 =>
   BIf ((shrI .u64 x11 x12.toNat) != wordAll_14) (
    NN b_1 fun a17 =>
    LoadT (.int .u64) a17 fun x18 =>
    F37_J1 k b_1 x_5 index_16 (decide (index_16 < x18))) (
    F37_J1 k b_1 x_5 index_16 false)))
theorem F37_eq (k : Value → W) (b_1 : Option Addr) (i_2 : Int) : compF Go.Proofs.Tryd.prog Go.Proofs.Tryd.f37 [(14, [(0, .ptr), (6, (.int .i64)), (67, .slice), (68, (.int .i64)), (69, (.int .i64))])] (Go.Proofs.Tryd.f37.body.getD .skip) [.pointer b_1, .int .u64 i_2] k = F37 k b_1 i_2 := by kernel_rfl
theorem F37_calls {b_1 : Option Addr} {i_2 : Int} {w : World} {R : Ending → World → Prop} (h : F37 (fun v w => R (.returned v) w) b_1 i_2 w) : Calls Go.Proofs.Tryd.prog 37 #[.pointer b_1, .int .u64 i_2] w R :=
  calls_of_compF noNum follows [(14, [(0, .ptr), (6, (.int .i64)), (67, .slice), (68, (.int .i64)), (69, (.int .i64))])] (f := 37) (fn := Go.Proofs.Tryd.f37) (body := Go.Proofs.Tryd.f37.body.getD .skip) (args := [.pointer b_1, .int .u64 i_2]) rfl rfl (Nat.le_of_ble_eq_true rfl) ((congrFun (F37_eq _ b_1 i_2) w).mpr h)
theorem F37_call {b_1 : Option Addr} {i_2 : Int} {w : World} {g : Fn W (RTy.leaves (.tup [(.one (.int .u64)), (.one .bool)]))} (h : F37 (fun v => Back (.tup [(.one (.int .u64)), (.one .bool)]) g (.returned v)) b_1 i_2 w) : CallT Go.Proofs.Tryd.prog 37 [.pointer b_1, .int .u64 i_2] (.tup [(.one (.int .u64)), (.one .bool)]) g w := F37_calls h

/-! ## impl.BSNextClear -/
def F14 (k : Value → W) (x1 : Int) (s2p : Option Addr) (s2l : Nat) (s2c : Nat) (i_3 : Int) : W :=
 New [.int .u64 x1, .slice s2p s2l s2c] 25 fun n4 =>
 LoadT (.int .u64) ⟨n4, 0, none⟩ fun x5 =>
 LoadT .slice ⟨n4, 1, none⟩ fun s6p s6l s6c =>
 CallT Go.Proofs.Tryd.prog 29 [.agg #[.int .u64 x5, .slice s6p s6l s6c]] (.s (.one .ptr)) fun p7 =>
 CallT Go.Proofs.Tryd.prog 37 [.pointer p7, .int .u64 i_3] (.tup [(.one (.int .u64)), (.one .bool)]) fun x8 b9 =>
 k (.tuple #[.int .u64 x8, .bool b9])
theorem F14_eq (k : Value → W) (x1 : Int) (s2p : Option Addr) (s2l : Nat) (s2c : Nat) (i_3 : Int) : compF Go.Proofs.Tryd.prog Go.Proofs.Tryd.f14 [] (Go.Proofs.Tryd.f14.body.getD .skip) [.agg #[.int .u64 x1, .slice s2p s2l s2c], .int .u64 i_3] k = F14 k x1 s2p s2l s2c i_3 := by kernel_rfl
theorem F14_calls {x1 : Int} {s2p : Option Addr} {s2l : Nat} {s2c : Nat} {i_3 : Int} {w : World} {R : Ending → World → Prop} (h : F14 (fun v w => R (.returned v) w) x1 s2p s2l s2c i_3 w) : Calls Go.Proofs.Tryd.prog 14 #[.agg #[.int .u64 x1, .slice s2p s2l s2c], .int .u64 i_3] w R :=
  calls_of_compF noNum follows [] (f := 14) (fn := Go.Proofs.Tryd.f14) (body := Go.Proofs.Tryd.f14.body.getD .skip) (args := [.agg #[.int .u64 x1, .slice s2p s2l s2c], .int .u64 i_3]) rfl rfl (Nat.le_of_ble_eq_true rfl) ((congrFun (F14_eq _ x1 s2p s2l s2c i_3) w).mpr h)
theorem F14_call {x1 : Int} {s2p : Option Addr} {s2l : Nat} {s2c : Nat} {i_3 : Int} {w : World} {g : Fn W (RTy.leaves (.tup [(.one (.int .u64)), (.one .bool)]))} (h : F14 (fun v => Back (.tup [(.one (.int .u64)), (.one .bool)]) g (.returned v)) x1 s2p s2l s2c i_3 w) : CallT Go.Proofs.Tryd.prog 14 [.agg #[.int .u64 x1, .slice s2p s2l s2c], .int .u64 i_3] (.tup [(.one (.int .u64)), (.one .bool)]) g w := F14_calls h

/-! ## bitset.BitSet).OnesBetween -/
def F38_J2 (k : Value → W) (b_27 : Option Addr) (endWord_28 : Int) (endOffset_29 : Int) (count_30 : Int) : W :=
 BIf (decide (endOffset_29 > 0)) (
  Req (0 ≤ endOffset_29) <|
  Bind (subI .u64 (shlI .u64 1 endOffset_29.toNat) 1 : Int) fun endMask_31 =>
  NN b_27 fun a32 =>
  LoadT .slice (a32.add 1) fun s33p s33l s33c =>
  NN s33p fun a34 =>
  Req (0 ≤ endWord_28 ∧ endWord_28 < ((s33l : Nat) : Int)) <|
  LoadT (.int .u64) (a34.add endWord_28.toNat) fun x35 =>
  CallT Go.Proofs.Tryd.prog 56 [.int .u64 (andI .u64 x35 endMask_31)] (.s (.one (.int .i64))) fun x36 =>
  Bind (addI .u64 count_30 (IntKind.wrap .u64 x36) : Int) fun count_37 =>
  k (.int .u64 count_37)) (
  k (.int .u64 count_30))
def F38_J1 (k : Value → W) (b_8 : Option Addr) (from_9 : Int) (to_10 : Int) : W :=
 BIf (decide (from_9 ≥ to_10)) (
  k (.int .u64 0)) (
  BIf ((shrI .u64 from_9 6) == (shrI .u64 to_10 6)) (
   Req (0 ≤ andI .u64 to_10 63) <|
   Req (0 ≤ andI .u64 from_9 63) <|
   Bind (andNotI .u64 (subI .u64 (shlI .u64 1 (andI .u64 to_10 63).toNat) 1) (subI .u64 (shlI .u64 1 (andI .u64 from_9 63).toNat) 1) : Int) fun mask_11 =>
   NN b_8 fun a12 =>
   LoadT .slice (a12.add 1) fun s13p s13l s13c =>
   NN s13p fun a14 =>
   Req (0 ≤ shrI .u64 from_9 6 ∧ shrI .u64 from_9 6 < ((s13l : Nat) : Int)) <|
   LoadT (.int .u64) (a14.add ((shrI .u64 from_9 6).toNat)) fun x15 =>
   CallT Go.Proofs.Tryd.prog 56 [.int .u64 (andI .u64 x15 mask_11)] (.s (.one (.int .i64))) fun x16 =>
   k (.int .u64 (IntKind.wrap .u64 x16))) (
   Req (0 ≤ andI .u64 from_9 63) <|
   Bind (xorI .u64 (IntKind.max .u64) (subI .u64 (shlI .u64 1 (andI .u64 from_9 63).toNat) 1) : Int) fun startMask_17 =>
   NN b_8 fun a18 =>
   LoadT .slice (a18.add 1) fun s19p s19l s19c =>
   NN s19p fun a20 =>
   Req (0 ≤ shrI .u64 from_9 6 ∧ shrI .u64 from_9 6 < ((s19l : Nat) : Int)) <|
   LoadT (.int .u64) (a20.add ((shrI .u64 from_9 6).toNat)) fun x21 =>
   CallT Go.Proofs.Tryd.prog 56 [.int .u64 (andI .u64 x21 startMask_17)] (.s (.one (.int .i64))) fun x22 =>
   BIf (decide ((shrI .u64 to_10 6) > (addI .u64 (shrI .u64 from_9 6) 1))) (
    NN b_8 fun a23 =>
    LoadT .slice (a23.add 1) fun s24p s24l s24c =>
    Req (0 ≤ shrI .u64 to_10 6 ∧ shrI .u64 to_10 6 ≤ ((s24c : Nat) : Int)) <|
    Req (0 ≤ addI .u64 (shrI .u64 from_9 6) 1 ∧ addI .u64 (shrI .u64 from_9 6) 1 ≤ (((shrI .u64 to_10 6).toNat : Nat) : Int)) <|
    CallT Go.Proofs.Tryd.prog 54 [.slice (sliceA s24p ((addI .u64 (shrI .u64 from_9 6) 1).toNat) s24c 1) (((shrI .u64 to_10 6).toNat) - ((addI .u64 (shrI .u64 from_9 6) 1).toNat)) (s24c - ((addI .u64 (shrI .u64 from_9 6) 1).toNat))] (.s (.one (.int .u64))) fun x25 =>
    Bind (addI .u64 (IntKind.wrap .u64 x22) x25 : Int) fun count_26 =>
    F38_J2 k b_8 (shrI .u64 to_10 6) (andI .u64 to_10 63) count_26) (
    F38_J2 k b_8 (shrI .u64 to_10 6) (andI .u64 to_10 63) (IntKind.wrap .u64 x22))))
def F38 (k : Value → W) (b_1 : Option Addr) (from_2 : Int) (to_3 : Int) : W :=
 CallT Go.Proofs.Tryd.prog 55 [.pointer b_1] (.tup []) <|
 NN b_1 fun a4 =>
 LoadT (.int .u64) a4 fun x5 =>
 BIf (decide (to_3 > x5)) (
  NN b_1 fun a6 =>
  LoadT (.int .u64) a6 fun x7 =>
  F38_J1 k b_1 from_2 x7) (
  F38_J1 k b_1 from_2 to_3)
theorem F38_eq (k : Value → W) (b_1 : Option Addr) (from_2 : Int) (to_3 : Int) : compF Go.Proofs.Tryd.prog Go.Proofs.Tryd.f38 [] (Go.Proofs.Tryd.f38.body.getD .skip) [.pointer b_1, .int .u64 from_2, .int .u64 to_3] k = F38 k b_1 from_2 to_3 := by kernel_rfl
theorem F38_calls {b_1 : Option Addr} {from_2 : Int} {to_3 : Int} {w : World} {R : Ending → World → Prop} (h : F38 (fun v w => R (.returned v) w) b_1 from_2 to_3 w) : Calls Go.Proofs.Tryd.prog 38 #[.pointer b_1, .int .u64 from_2, .int .u64 to_3] w R :=
  calls_of_compF noNum follows [] (f := 38) (fn := Go.Proofs.Tryd.f38) (body := Go.Proofs.Tryd.f38.body.getD .skip) (args := [.pointer b_1, .int .u64 from_2, .int .u64 to_3]) rfl rfl (Nat.le_of_ble_eq_true rfl) ((congrFun (F38_eq _ b_1 from_2 to_3) w).mpr h)
theorem F38_call {b_1 : Option Addr} {from_2 : Int} {to_3 : Int} {w : World} {g : Fn W (RTy.leaves (.s (.one (.int .u64))))} (h : F38 (fun v => Back (.s (.one (.int .u64))) g (.returned v)) b_1 from_2 to_3 w) : CallT Go.Proofs.Tryd.prog 38 [.pointer b_1, .int .u64 from_2, .int .u64 to_3] (.s (.one (.int .u64))) g w := F38_calls h

/-! ## impl.BSOnesBetween -/
def F15 (k : Value → W) (x1 : Int) (s2p : Option Addr) (s2l : Nat) (s2c : Nat) (from_3 : Int) (to_4 : Int) : W :=
 New [.int .u64 x1, .slice s2p s2l s2c] 25 fun n5 =>
 LoadT (.int .u64) ⟨n5, 0, none⟩ fun x6 =>
 LoadT .slice ⟨n5, 1, none⟩ fun s7p s7l s7c =>
 CallT Go.Proofs.Tryd.prog 29 [.agg #[.int .u64 x6, .slice s7p s7l s7c]] (.s (.one .ptr)) fun p8 =>
 CallT Go.Proofs.Tryd.prog 38 [.pointer p8, .int .u64 from_3, .int .u64 to_4] (.s (.one (.int .u64))) fun x9 =>
 k (.int .u64 x9)
theorem F15_eq (k : Value → W) (x1 : Int) (s2p : Option Addr) (s2l : Nat) (s2c : Nat) (from_3 : Int) (to_4 : Int) : compF Go.Proofs.Tryd.prog Go.Proofs.Tryd.f15 [] (Go.Proofs.Tryd.f15.body.getD .skip) [.agg #[.int .u64 x1, .slice s2p s2l s2c], .int .u64 from_3, .int .u64 to_4] k = F15 k x1 s2p s2l s2c from_3 to_4 := by kernel_rfl
theorem F15_calls {x1 : Int} {s2p : Option Addr} {s2l : Nat} {s2c : Nat} {from_3 : Int} {to_4 : Int} {w : World} {R : Ending → World → Prop} (h : F15 (fun v w => R (.returned v) w) x1 s2p s2l s2c from_3 to_4 w) : Calls Go.Proofs.Tryd.prog 15 #[.agg #[.int .u64 x1, .slice s2p s2l s2c], .int .u64 from_3, .int .u64 to_4] w R :=
  calls_of_compF noNum follows [] (f := 15) (fn := Go.Proofs.Tryd.f15) (body := Go.Proofs.Tryd.f15.body.getD .skip) (args := [.agg #[.int .u64 x1, .slice s2p s2l s2c], .int .u64 from_3, .int .u64 to_4]) rfl rfl (Nat.le_of_ble_eq_true rfl) ((congrFun (F15_eq _ x1 s2p s2l s2c from_3 to_4) w).mpr h)
theorem F15_call {x1 : Int} {s2p : Option Addr} {s2l : Nat} {s2c : Nat} {from_3 : Int} {to_4 : Int} {w : World} {g : Fn W (RTy.leaves (.s (.one (.int .u64))))} (h : F15 (fun v => Back (.s (.one (.int .u64))) g (.returned v)) x1 s2p s2l s2c from_3 to_4 w) : CallT Go.Proofs.Tryd.prog 15 [.agg #[.int .u64 x1, .slice s2p s2l s2c], .int .u64 from_3, .int .u64 to_4] (.s (.one (.int .u64))) g w := F15_calls h

/-! ## laws.FnBSDeepBetween -/
def F4 (k : Value → W) (x1 : Int) (s2p : Option Addr) (s2l : Nat) (s2c : Nat) (at_3 : Int) : W :=
 New [.int .u64 x1, .slice s2p s2l s2c] 25 fun n4 =>
 LoadT (.int .u64) ⟨n4, 0, none⟩ fun x5 =>
 LoadT .slice ⟨n4, 1, none⟩ fun s6p s6l s6c =>
 CallT Go.Proofs.Tryd.prog 7 [.agg #[.int .u64 x5, .slice s6p s6l s6c]] (.s (.one .bool)) fun b7 =>
 BIf (!b7) (
  k (.bool true)) (
  LoadT (.int .u64) ⟨n4, 0, none⟩ fun x8 =>
  LoadT .slice ⟨n4, 1, none⟩ fun s9p s9l s9c =>
  CallT Go.Proofs.Tryd.prog 9 [.agg #[.int .u64 x8, .slice s9p s9l s9c]] (.s (.agg [(.int .u64), .slice])) fun x10 s11p s11l s11c =>
  CallT Go.Proofs.Tryd.prog 8 [.agg #[.int .u64 x10, .slice s11p s11l s11c], .int .u64 401] (.s (.agg [(.int .u64), .slice])) fun x12 s13p s13l s13c =>
  New [.int .u64 0, .slice none 0 0] 25 fun n14 =>
  Store1 ⟨n14, 0, none⟩ (.int .u64 x12) <|
  Store1 ⟨n14, 1, none⟩ (.slice s13p s13l s13c) <|
  Req (401 ≠ (0 : Int)) <|
  Bind (remI (IntKind.wrap .u64 at_3) 401 : Int) fun i_15 =>
  LoadT (.int .u64) ⟨n14, 0, none⟩ fun x16 =>
  LoadT .slice ⟨n14, 1, none⟩ fun s17p s17l s17c =>
  CallT Go.Proofs.Tryd.prog 10 [.agg #[.int .u64 x16, .slice s17p s17l s17c], .int .u64 i_15] (.tup [(.one (.int .u64)), (.one .bool)]) fun x18 b19 =>
  LoadT (.int .u64) ⟨n14, 0, none⟩ fun x20 =>
  LoadT .slice ⟨n14, 1, none⟩ fun s21p s21l s21c =>
  CallT Go.Proofs.Tryd.prog 14 [.agg #[.int .u64 x20, .slice s21p s21l s21c], .int .u64 i_15] (.tup [(.one (.int .u64)), (.one .bool)]) fun x22 b23 =>
  BIf b19 (
   BIf b23 (
    BIf (decide (x18 ≥ i_15)) (
     BIf (decide (x22 ≥ i_15)) (
      LoadT (.int .u64) ⟨n14, 0, none⟩ fun x24 =>
      LoadT .slice ⟨n14, 1, none⟩ fun s25p s25l s25c =>
      CallT Go.Proofs.Tryd.prog 15 [.agg #[.int .u64 x24, .slice s25p s25l s25c], .int .u64 i_15, .int .u64 x18] (.s (.one (.int .u64))) fun x26 =>
      BIf (x26 == 0) (
       LoadT (.int .u64) ⟨n14, 0, none⟩ fun x27 =>
       LoadT .slice ⟨n14, 1, none⟩ fun s28p s28l s28c =>
       CallT Go.Proofs.Tryd.prog 15 [.agg #[.int .u64 x27, .slice s28p s28l s28c], .int .u64 i_15, .int .u64 x22] (.s (.one (.int .u64))) fun x29 =>
       BIf (x29 == (subI .u64 x22 i_15)) (
        LoadT (.int .u64) ⟨n14, 0, none⟩ fun x30 =>
        LoadT .slice ⟨n14, 1, none⟩ fun s31p s31l s31c =>
        CallT Go.Proofs.Tryd.prog 16 [.agg #[.int .u64 x30, .slice s31p s31l s31c], .int .u64 x18] (.s (.one .bool)) fun b32 =>
        BIf b32 (
         LoadT (.int .u64) ⟨n14, 0, none⟩ fun x33 =>
         LoadT .slice ⟨n14, 1, none⟩ fun s34p s34l s34c =>
         CallT Go.Proofs.Tryd.prog 16 [.agg #[.int .u64 x33, .slice s34p s34l s34c], .int .u64 x22] (.s (.one .bool)) fun b35 =>
         k (.bool (!b35))) (
         k (.bool false))) (
        k (.bool false))) (
       k (.bool false))) (
      k (.bool false))) (
     k (.bool false))) (
    k (.bool false))) (
   k (.bool false)))
theorem F4_eq (k : Value → W) (x1 : Int) (s2p : Option Addr) (s2l : Nat) (s2c : Nat) (at_3 : Int) : compF Go.Proofs.Tryd.prog Go.Proofs.Tryd.f4 [] (Go.Proofs.Tryd.f4.body.getD .skip) [.agg #[.int .u64 x1, .slice s2p s2l s2c], .int .u16 at_3] k = F4 k x1 s2p s2l s2c at_3 := by kernel_rfl
theorem F4_calls {x1 : Int} {s2p : Option Addr} {s2l : Nat} {s2c : Nat} {at_3 : Int} {w : World} {R : Ending → World → Prop} (h : F4 (fun v w => R (.returned v) w) x1 s2p s2l s2c at_3 w) : Calls Go.Proofs.Tryd.prog 4 #[.agg #[.int .u64 x1, .slice s2p s2l s2c], .int .u16 at_3] w R :=
  calls_of_compF noNum follows [] (f := 4) (fn := Go.Proofs.Tryd.f4) (body := Go.Proofs.Tryd.f4.body.getD .skip) (args := [.agg #[.int .u64 x1, .slice s2p s2l s2c], .int .u16 at_3]) rfl rfl (Nat.le_of_ble_eq_true rfl) ((congrFun (F4_eq _ x1 s2p s2l s2c at_3) w).mpr h)
theorem F4_call {x1 : Int} {s2p : Option Addr} {s2l : Nat} {s2c : Nat} {at_3 : Int} {w : World} {g : Fn W (RTy.leaves (.s (.one .bool)))} (h : F4 (fun v => Back (.s (.one .bool)) g (.returned v)) x1 s2p s2l s2c at_3 w) : CallT Go.Proofs.Tryd.prog 4 [.agg #[.int .u64 x1, .slice s2p s2l s2c], .int .u16 at_3] (.s (.one .bool)) g w := F4_calls h

/-! ## bitset.BitSet).Shrink -/
def F57 (k : Value → W) (b_1 : Option Addr) (lastbitindex_2 : Int) : W :=
 NN b_1 fun a3 =>
 LoadT (.int .u64) a3 fun x4 =>
 BIf (decide (lastbitindex_2 ≥ x4)) (
  k (.pointer b_1)) (
  Bind (addI .u64 lastbitindex_2 1 : Int) fun length_5 =>
  CallT Go.Proofs.Tryd.prog 63 [.int .u64 length_5] (.s (.one (.int .i64))) fun x6 =>
  NN b_1 fun a7 =>
  LoadT .slice (a7.add 1) fun s8p s8l s8c =>
  BIf (decide (x6 > ((s8l : Nat) : Int))) (
   k (.pointer b_1)) (
   RawT Go.Proofs.Tryd.prog (Instr.makeSlice 61 (.int .i64 x6) (.int .i64 x6)) (.s (.one .slice)) fun s9p s9l s9c =>
   NN b_1 fun a10 =>
   LoadT .slice (a10.add 1) fun s11p s11l s11c =>
   Req (0 ≤ x6 ∧ x6 ≤ ((s11c : Nat) : Int)) <|
   NextT Go.Proofs.Tryd.prog (builtin .copy #[61, 61] 3 [false, false].toArray [.slice s9p s9l s9c, .slice (sliceA s11p 0 s11c 1) (x6.toNat - 0) (s11c - 0)].toArray) (.s (.one (.int .i64))) fun x12 =>
   NN b_1 fun a13 =>
   Store1 (a13.add 1) (.slice s9p s9l s9c) <|
   NN b_1 fun a14 =>
   Store1 a14 (.int .u64 length_5) <|
   Req (64 ≠ (0 : Int)) <|
   BIf ((remI length_5 64) != 0) (
    Drw <|
    NN b_1 fun a15 =>
    LoadT .slice (a15.add 1) fun s16p s16l s16c =>
    NN s16p fun a17 =>
    Req (0 ≤ subI .i64 x6 1 ∧ subI .i64 x6 1 < ((s16l : Nat) : Int)) <|
    LoadT (.int .u64) (a17.add ((subI .i64 x6 1).toNat)) fun x18 =>
    CallT Go.Proofs.Tryd.prog 52 [.int .u64 (remI length_5 64)] (.s (.one (.int .u64))) fun x19 =>
    Chk1 (a17.add ((subI .i64 x6 1).toNat)) (.int .u64 x18) <|
    Chk1 (a15.add 1) (.slice s16p s16l s16c) <|
    Req (0 ≤ subI .u64 64 x19) <|
    NN s16p fun a20 =>
    Req (0 ≤ subI .i64 x6 1 ∧ subI .i64 x6 1 < ((s16l : Nat) : Int)) <|
    Store1 (a20.add ((subI .i64 x6 1).toNat)) (.int .u64 (andI .u64 x18 (shrI .u64 18446744073709551615 (subI .u64 64 x19).toNat))) <|
    k (.pointer b_1)) (
    k (.pointer b_1))))
theorem F57_eq (k : Value → W) (b_1 : Option Addr) (lastbitindex_2 : Int) : compF Go.Proofs.Tryd.prog Go.Proofs.Tryd.f57 [] (Go.Proofs.Tryd.f57.body.getD .skip) [.pointer b_1, .int .u64 lastbitindex_2] k = F57 k b_1 lastbitindex_2 := by kernel_rfl
theorem F57_calls {b_1 : Option Addr} {lastbitindex_2 : Int} {w : World} {R : Ending → World → Prop} (h : F57 (fun v w => R (.returned v) w) b_1 lastbitindex_2 w) : Calls Go.Proofs.Tryd.prog 57 #[.pointer b_1, .int .u64 lastbitindex_2] w R :=
  calls_of_compF noNum follows [] (f := 57) (fn := Go.Proofs.Tryd.f57) (body := Go.Proofs.Tryd.f57.body.getD .skip) (args := [.pointer b_1, .int .u64 lastbitindex_2]) rfl rfl (Nat.le_of_ble_eq_true rfl) ((congrFun (F57_eq _ b_1 lastbitindex_2) w).mpr h)
theorem F57_call {b_1 : Option Addr} {lastbitindex_2 : Int} {w : World} {g : Fn W (RTy.leaves (.s (.one .ptr)))} (h : F57 (fun v => Back (.s (.one .ptr)) g (.returned v)) b_1 lastbitindex_2 w) : CallT Go.Proofs.Tryd.prog 57 [.pointer b_1, .int .u64 lastbitindex_2] (.s (.one .ptr)) g w := F57_calls h

/-! ## bitset.BitSet).Compact -/
def F40_J1 (k : Value → W) (b_12 : Option Addr) (idx_13 : Int) : W :=
 Bind (IntKind.wrap .u64 (shlI .i64 (addI .i64 idx_13 1) 6) : Int) fun newlength_14 =>
 NN b_12 fun a15 =>
 LoadT (.int .u64) a15 fun x16 =>
 BIf (decide (newlength_14 ≥ x16)) (
  k (.pointer b_12)) (
  BIf (decide (newlength_14 > 0)) (
   CallT Go.Proofs.Tryd.prog 57 [.pointer b_12, .int .u64 (subI .u64 newlength_14 1)] (.s (.one .ptr)) fun p17 =>
   k (.pointer p17)) (
   CallT Go.Proofs.Tryd.prog 57 [.pointer b_12, .int .u64 63] (.s (.one .ptr)) fun p18 =>
   k (.pointer p18)))
def F40_L1 (k : Value → W) (again7 : Option Addr → Int → W) (b_5 : Option Addr) (idx_6 : Int) : W :=
 BIf (decide (idx_6 ≥ 0)) (
  NN b_5 fun a8 =>
  LoadT .slice (a8.add 1) fun s9p s9l s9c =>
  NN s9p fun a10 =>
  Req (0 ≤ idx_6 ∧ idx_6 < ((s9l : Nat) : Int)) <|
  LoadT (.int .u64) (a10.add idx_6.toNat) fun x11 =>
  BIf (x11 == 0) (
   again7 b_5 (subI .i64 idx_6 1)) (
   F40_J1 k b_5 idx_6)) (
  F40_J1 k b_5 idx_6)
theorem F40_L1_rule {k : Value → W} (I : Option Addr → Int → W) (μ : Option Addr → Int → World → Nat)
  (hr : ∀ (b_5 : Option Addr) (idx_6 : Int) (w : World), I b_5 idx_6 w → F40_L1 k (fun b_5' idx_6' w' => I b_5' idx_6' w' ∧ μ b_5' idx_6' w' < μ b_5 idx_6 w) b_5 idx_6 w)
  {w : World} {b_5 : Option Addr} {idx_6 : Int} (h : I b_5 idx_6 w) : Loop [.ptr, (.int .i64)] (F40_L1 k) b_5 idx_6 w :=
  Loop_intro (ts := [.ptr, (.int .i64)]) (s := (b_5, idx_6, ())) (fun s w => I s.1 s.2.1 w) (fun s w => μ s.1 s.2.1 w) h (fun s w h => hr s.1 s.2.1 w h)
def F40 (k : Value → W) (b_1 : Option Addr) : W :=
 NN b_1 fun a2 =>
 LoadT .slice (a2.add 1) fun s3p s3l s3c =>
 Bind (subI .i64 ((s3l : Nat) : Int) 1 : Int) fun idx_4 =>
 Loop [.ptr, (.int .i64)] (F40_L1 k) b_1 idx_4
theorem F40_eq (k : Value → W) (b_1 : Option Addr) : compF Go.Proofs.Tryd.prog Go.Proofs.Tryd.f40 [(2, [(0, .ptr), (3, (.int .i64))])] (Go.Proofs.Tryd.f40.body.getD .skip) [.pointer b_1] k = F40 k b_1 := by kernel_rfl
theorem F40_calls {b_1 : Option Addr} {w : World} {R : Ending → World → Prop} (h : F40 (fun v w => R (.returned v) w) b_1 w) : Calls Go.Proofs.Tryd.prog 40 #[.pointer b_1] w R :=
  calls_of_compF noNum follows [(2, [(0, .ptr), (3, (.int .i64))])] (f := 40) (fn := Go.Proofs.Tryd.f40) (body := Go.Proofs.Tryd.f40.body.getD .skip) (args := [.pointer b_1]) rfl rfl (Nat.le_of_ble_eq_true rfl) ((congrFun (F40_eq _ b_1) w).mpr h)
theorem F40_call {b_1 : Option Addr} {w : World} {g : Fn W (RTy.leaves (.s (.one .ptr)))} (h : F40 (fun v => Back (.s (.one .ptr)) g (.returned v)) b_1 w) : CallT Go.Proofs.Tryd.prog 40 [.pointer b_1] (.s (.one .ptr)) g w := F40_calls h

/-! ## impl.BSCompact -/
def F17 (k : Value → W) (x1 : Int) (s2p : Option Addr) (s2l : Nat) (s2c : Nat) : W :=
 New [.int .u64 x1, .slice s2p s2l s2c] 25 fun n3 =>
 New [.int .u64 0, .slice none 0 0] 25 fun n4 =>
 LoadT (.int .u64) ⟨n3, 0, none⟩ fun x5 =>
 LoadT .slice ⟨n3, 1, none⟩ fun s6p s6l s6c =>
 CallT Go.Proofs.Tryd.prog 29 [.agg #[.int .u64 x5, .slice s6p s6l s6c]] (.s (.one .ptr)) fun p7 =>
 CallT Go.Proofs.Tryd.prog 40 [.pointer p7] (.s (.one .ptr)) fun p8 =>
 CallT Go.Proofs.Tryd.prog 31 [.pointer p7] (.s (.agg [(.int .u64), .slice])) fun x9 s10p s10l s10c =>
 Store1 ⟨n4, 0, none⟩ (.int .u64 x9) <|
 Store1 ⟨n4, 1, none⟩ (.slice s10p s10l s10c) <|
 LoadT (.int .u64) ⟨n4, 0, none⟩ fun x11 =>
 LoadT .slice ⟨n4, 1, none⟩ fun s12p s12l s12c =>
 k (.agg #[.int .u64 x11, .slice s12p s12l s12c])
theorem F17_eq (k : Value → W) (x1 : Int) (s2p : Option Addr) (s2l : Nat) (s2c : Nat) : compF Go.Proofs.Tryd.prog Go.Proofs.Tryd.f17 [] (Go.Proofs.Tryd.f17.body.getD .skip) [.agg #[.int .u64 x1, .slice s2p s2l s2c]] k = F17 k x1 s2p s2l s2c := by kernel_rfl
theorem F17_calls {x1 : Int} {s2p : Option Addr} {s2l : Nat} {s2c : Nat} {w : World} {R : Ending → World → Prop} (h : F17 (fun v w => R (.returned v) w) x1 s2p s2l s2c w) : Calls Go.Proofs.Tryd.prog 17 #[.agg #[.int .u64 x1, .slice s2p s2l s2c]] w R :=
  calls_of_compF noNum follows [] (f := 17) (fn := Go.Proofs.Tryd.f17) (body := Go.Proofs.Tryd.f17.body.getD .skip) (args := [.agg #[.int .u64 x1, .slice s2p s2l s2c]]) rfl rfl (Nat.le_of_ble_eq_true rfl) ((congrFun (F17_eq _ x1 s2p s2l s2c) w).mpr h)
theorem F17_call {x1 : Int} {s2p : Option Addr} {s2l : Nat} {s2c : Nat} {w : World} {g : Fn W (RTy.leaves (.s (.agg [(.int .u64), .slice])))} (h : F17 (fun v => Back (.s (.agg [(.int .u64), .slice])) g (.returned v)) x1 s2p s2l s2c w) : CallT Go.Proofs.Tryd.prog 17 [.agg #[.int .u64 x1, .slice s2p s2l s2c]] (.s (.agg [(.int .u64), .slice])) g w := F17_calls h

/-! ## laws.FnBSDeepCompact -/
def F5 (k : Value → W) (x1 : Int) (s2p : Option Addr) (s2l : Nat) (s2c : Nat) (at_3 : Int) (place_4 : Int) : W :=
 New [.int .u64 x1, .slice s2p s2l s2c] 25 fun n5 =>
 LoadT (.int .u64) ⟨n5, 0, none⟩ fun x6 =>
 LoadT .slice ⟨n5, 1, none⟩ fun s7p s7l s7c =>
 CallT Go.Proofs.Tryd.prog 7 [.agg #[.int .u64 x6, .slice s7p s7l s7c]] (.s (.one .bool)) fun b8 =>
 BIf (!b8) (
  k (.bool true)) (
  LoadT (.int .u64) ⟨n5, 0, none⟩ fun x9 =>
  LoadT .slice ⟨n5, 1, none⟩ fun s10p s10l s10c =>
  CallT Go.Proofs.Tryd.prog 9 [.agg #[.int .u64 x9, .slice s10p s10l s10c]] (.s (.agg [(.int .u64), .slice])) fun x11 s12p s12l s12c =>
  Req (400 ≠ (0 : Int)) <|
  CallT Go.Proofs.Tryd.prog 8 [.agg #[.int .u64 x11, .slice s12p s12l s12c], .int .u64 (remI (IntKind.wrap .u64 at_3) 400)] (.s (.agg [(.int .u64), .slice])) fun x13 s14p s14l s14c =>
  Req (500 ≠ (0 : Int)) <|
  New [.int .u64 0, .slice none 0 0] 25 fun n15 =>
  Store1 ⟨n15, 0, none⟩ (.int .u64 x13) <|
  Store1 ⟨n15, 1, none⟩ (.slice s14p s14l s14c) <|
  Bind (remI (IntKind.wrap .u64 place_4) 500 : Int) fun i_16 =>
  LoadT (.int .u64) ⟨n15, 0, none⟩ fun x17 =>
  LoadT .slice ⟨n15, 1, none⟩ fun s18p s18l s18c =>
  CallT Go.Proofs.Tryd.prog 17 [.agg #[.int .u64 x17, .slice s18p s18l s18c]] (.s (.agg [(.int .u64), .slice])) fun x19 s20p s20l s20c =>
  New [.int .u64 0, .slice none 0 0] 25 fun n21 =>
  Store1 ⟨n21, 0, none⟩ (.int .u64 x19) <|
  Store1 ⟨n21, 1, none⟩ (.slice s20p s20l s20c) <|
  LoadT (.int .u64) ⟨n15, 0, none⟩ fun x22 =>
  LoadT .slice ⟨n15, 1, none⟩ fun s23p s23l s23c =>
  CallT Go.Proofs.Tryd.prog 10 [.agg #[.int .u64 x22, .slice s23p s23l s23c], .int .u64 i_16] (.tup [(.one (.int .u64)), (.one .bool)]) fun x24 b25 =>
  LoadT (.int .u64) ⟨n21, 0, none⟩ fun x26 =>
  LoadT .slice ⟨n21, 1, none⟩ fun s27p s27l s27c =>
  CallT Go.Proofs.Tryd.prog 10 [.agg #[.int .u64 x26, .slice s27p s27l s27c], .int .u64 i_16] (.tup [(.one (.int .u64)), (.one .bool)]) fun x28 b29 =>
  Drw <|
  LoadT (.int .u64) ⟨n15, 0, none⟩ fun x30 =>
  LoadT .slice ⟨n15, 1, none⟩ fun s31p s31l s31c =>
  CallT Go.Proofs.Tryd.prog 18 [.agg #[.int .u64 x30, .slice s31p s31l s31c]] (.s (.one (.int .u64))) fun x32 =>
  BIf (decide (x32 > 0)) (
   LoadT (.int .u64) ⟨n15, 0, none⟩ fun x33 =>
   LoadT .slice ⟨n15, 1, none⟩ fun s34p s34l s34c =>
   LoadT (.int .u64) ⟨n21, 0, none⟩ fun x35 =>
   LoadT .slice ⟨n21, 1, none⟩ fun s36p s36l s36c =>
   CallT Go.Proofs.Tryd.prog 18 [.agg #[.int .u64 x33, .slice s34p s34l s34c]] (.s (.one (.int .u64))) fun x37 =>
   Chk1 ⟨n21, 0, none⟩ (.int .u64 x35) <|
   Chk1 ⟨n21, 1, none⟩ (.slice s36p s36l s36c) <|
   Chk1 ⟨n15, 0, none⟩ (.int .u64 x30) <|
   Chk1 ⟨n15, 1, none⟩ (.slice s31p s31l s31c) <|
   CallT Go.Proofs.Tryd.prog 18 [.agg #[.int .u64 x35, .slice s36p s36l s36c]] (.s (.one (.int .u64))) fun x38 =>
   Chk1 ⟨n15, 0, none⟩ (.int .u64 x33) <|
   Chk1 ⟨n15, 1, none⟩ (.slice s34p s34l s34c) <|
   Chk1 ⟨n15, 0, none⟩ (.int .u64 x30) <|
   Chk1 ⟨n15, 1, none⟩ (.slice s31p s31l s31c) <|
   BIf (x37 == x38) (
    LoadT (.int .u64) ⟨n15, 0, none⟩ fun x39 =>
    LoadT .slice ⟨n15, 1, none⟩ fun s40p s40l s40c =>
    LoadT (.int .u64) ⟨n21, 0, none⟩ fun x41 =>
    LoadT .slice ⟨n21, 1, none⟩ fun s42p s42l s42c =>
    CallT Go.Proofs.Tryd.prog 19 [.agg #[.int .u64 x39, .slice s40p s40l s40c], .int .u64 i_16] (.s (.one (.int .u64))) fun x43 =>
    Chk1 ⟨n21, 0, none⟩ (.int .u64 x41) <|
    Chk1 ⟨n21, 1, none⟩ (.slice s42p s42l s42c) <|
    Chk1 ⟨n21, 0, none⟩ (.int .u64 x35) <|
    Chk1 ⟨n21, 1, none⟩ (.slice s36p s36l s36c) <|
    Chk1 ⟨n15, 0, none⟩ (.int .u64 x33) <|
    Chk1 ⟨n15, 1, none⟩ (.slice s34p s34l s34c) <|
    Chk1 ⟨n15, 0, none⟩ (.int .u64 x30) <|
    Chk1 ⟨n15, 1, none⟩ (.slice s31p s31l s31c) <|
    CallT Go.Proofs.Tryd.prog 19 [.agg #[.int .u64 x41, .slice s42p s42l s42c], .int .u64 i_16] (.s (.one (.int .u64))) fun x44 =>
    Chk1 ⟨n15, 0, none⟩ (.int .u64 x39) <|
    Chk1 ⟨n15, 1, none⟩ (.slice s40p s40l s40c) <|
    Chk1 ⟨n21, 0, none⟩ (.int .u64 x35) <|
    Chk1 ⟨n21, 1, none⟩ (.slice s36p s36l s36c) <|
    Chk1 ⟨n15, 0, none⟩ (.int .u64 x33) <|
    Chk1 ⟨n15, 1, none⟩ (.slice s34p s34l s34c) <|
    Chk1 ⟨n15, 0, none⟩ (.int .u64 x30) <|
    Chk1 ⟨n15, 1, none⟩ (.slice s31p s31l s31c) <|
    BIf (x43 == x44) (
     LoadT (.int .u64) ⟨n15, 0, none⟩ fun x45 =>
     LoadT .slice ⟨n15, 1, none⟩ fun s46p s46l s46c =>
     LoadT (.int .u64) ⟨n21, 0, none⟩ fun x47 =>
     LoadT .slice ⟨n21, 1, none⟩ fun s48p s48l s48c =>
     CallT Go.Proofs.Tryd.prog 16 [.agg #[.int .u64 x45, .slice s46p s46l s46c], .int .u64 i_16] (.s (.one .bool)) fun b49 =>
     Chk1 ⟨n21, 0, none⟩ (.int .u64 x47) <|
     Chk1 ⟨n21, 1, none⟩ (.slice s48p s48l s48c) <|
     Chk1 ⟨n21, 0, none⟩ (.int .u64 x41) <|
     Chk1 ⟨n21, 1, none⟩ (.slice s42p s42l s42c) <|
     Chk1 ⟨n15, 0, none⟩ (.int .u64 x39) <|
     Chk1 ⟨n15, 1, none⟩ (.slice s40p s40l s40c) <|
     Chk1 ⟨n21, 0, none⟩ (.int .u64 x35) <|
     Chk1 ⟨n21, 1, none⟩ (.slice s36p s36l s36c) <|
     Chk1 ⟨n15, 0, none⟩ (.int .u64 x33) <|
     Chk1 ⟨n15, 1, none⟩ (.slice s34p s34l s34c) <|
     Chk1 ⟨n15, 0, none⟩ (.int .u64 x30) <|
     Chk1 ⟨n15, 1, none⟩ (.slice s31p s31l s31c) <|
     CallT Go.Proofs.Tryd.prog 16 [.agg #[.int .u64 x47, .slice s48p s48l s48c], .int .u64 i_16] (.s (.one .bool)) fun b50 =>
     Chk1 ⟨n15, 0, none⟩ (.int .u64 x45) <|
     Chk1 ⟨n15, 1, none⟩ (.slice s46p s46l s46c) <|
     Chk1 ⟨n21, 0, none⟩ (.int .u64 x41) <|
     Chk1 ⟨n21, 1, none⟩ (.slice s42p s42l s42c) <|
     Chk1 ⟨n15, 0, none⟩ (.int .u64 x39) <|
     Chk1 ⟨n15, 1, none⟩ (.slice s40p s40l s40c) <|
     Chk1 ⟨n21, 0, none⟩ (.int .u64 x35) <|
     Chk1 ⟨n21, 1, none⟩ (.slice s36p s36l s36c) <|
     Chk1 ⟨n15, 0, none⟩ (.int .u64 x33) <|
     Chk1 ⟨n15, 1, none⟩ (.slice s34p s34l s34c) <|
     Chk1 ⟨n15, 0, none⟩ (.int .u64 x30) <|
     Chk1 ⟨n15, 1, none⟩ (.slice s31p s31l s31c) <|
     BIf (b49 == b50) (
      BIf (b25 == b29) (
       BIf (!b25) (
        LoadT (.int .u64) ⟨n21, 0, none⟩ fun x51 =>
        LoadT .slice ⟨n21, 1, none⟩ fun s52p s52l s52c =>
        LoadT (.int .u64) ⟨n15, 0, none⟩ fun x53 =>
        LoadT .slice ⟨n15, 1, none⟩ fun s54p s54l s54c =>
        CallT Go.Proofs.Tryd.prog 20 [.agg #[.int .u64 x51, .slice s52p s52l s52c], .agg #[.int .u64 x53, .slice s54p s54l s54c]] (.s (.one .bool)) fun b55 =>
        Chk1 ⟨n21, 0, none⟩ (.int .u64 x47) <|
        Chk1 ⟨n21, 1, none⟩ (.slice s48p s48l s48c) <|
        Chk1 ⟨n15, 0, none⟩ (.int .u64 x45) <|
        Chk1 ⟨n15, 1, none⟩ (.slice s46p s46l s46c) <|
        Chk1 ⟨n21, 0, none⟩ (.int .u64 x41) <|
        Chk1 ⟨n21, 1, none⟩ (.slice s42p s42l s42c) <|
        Chk1 ⟨n15, 0, none⟩ (.int .u64 x39) <|
        Chk1 ⟨n15, 1, none⟩ (.slice s40p s40l s40c) <|
        Chk1 ⟨n21, 0, none⟩ (.int .u64 x35) <|
        Chk1 ⟨n21, 1, none⟩ (.slice s36p s36l s36c) <|
        Chk1 ⟨n15, 0, none⟩ (.int .u64 x33) <|
        Chk1 ⟨n15, 1, none⟩ (.slice s34p s34l s34c) <|
        Chk1 ⟨n15, 0, none⟩ (.int .u64 x30) <|
        Chk1 ⟨n15, 1, none⟩ (.slice s31p s31l s31c) <|
        k (.bool b55)) (
        BIf (x24 == x28) (
         LoadT (.int .u64) ⟨n21, 0, none⟩ fun x56 =>
         LoadT .slice ⟨n21, 1, none⟩ fun s57p s57l s57c =>
         LoadT (.int .u64) ⟨n15, 0, none⟩ fun x58 =>
         LoadT .slice ⟨n15, 1, none⟩ fun s59p s59l s59c =>
         CallT Go.Proofs.Tryd.prog 20 [.agg #[.int .u64 x56, .slice s57p s57l s57c], .agg #[.int .u64 x58, .slice s59p s59l s59c]] (.s (.one .bool)) fun b60 =>
         Chk1 ⟨n21, 0, none⟩ (.int .u64 x47) <|
         Chk1 ⟨n21, 1, none⟩ (.slice s48p s48l s48c) <|
         Chk1 ⟨n15, 0, none⟩ (.int .u64 x45) <|
         Chk1 ⟨n15, 1, none⟩ (.slice s46p s46l s46c) <|
         Chk1 ⟨n21, 0, none⟩ (.int .u64 x41) <|
         Chk1 ⟨n21, 1, none⟩ (.slice s42p s42l s42c) <|
         Chk1 ⟨n15, 0, none⟩ (.int .u64 x39) <|
         Chk1 ⟨n15, 1, none⟩ (.slice s40p s40l s40c) <|
         Chk1 ⟨n21, 0, none⟩ (.int .u64 x35) <|
         Chk1 ⟨n21, 1, none⟩ (.slice s36p s36l s36c) <|
         Chk1 ⟨n15, 0, none⟩ (.int .u64 x33) <|
         Chk1 ⟨n15, 1, none⟩ (.slice s34p s34l s34c) <|
         Chk1 ⟨n15, 0, none⟩ (.int .u64 x30) <|
         Chk1 ⟨n15, 1, none⟩ (.slice s31p s31l s31c) <|
         k (.bool b60)) (
         k (.bool false)))) (
       k (.bool false))) (
      k (.bool false))) (
     k (.bool false))) (
    k (.bool false))) (
   k (.bool false)))
theorem F5_eq (k : Value → W) (x1 : Int) (s2p : Option Addr) (s2l : Nat) (s2c : Nat) (at_3 : Int) (place_4 : Int) : compF Go.Proofs.Tryd.prog Go.Proofs.Tryd.f5 [] (Go.Proofs.Tryd.f5.body.getD .skip) [.agg #[.int .u64 x1, .slice s2p s2l s2c], .int .u16 at_3, .int .u16 place_4] k = F5 k x1 s2p s2l s2c at_3 place_4 := by kernel_rfl
theorem F5_calls {x1 : Int} {s2p : Option Addr} {s2l : Nat} {s2c : Nat} {at_3 : Int} {place_4 : Int} {w : World} {R : Ending → World → Prop} (h : F5 (fun v w => R (.returned v) w) x1 s2p s2l s2c at_3 place_4 w) : Calls Go.Proofs.Tryd.prog 5 #[.agg #[.int .u64 x1, .slice s2p s2l s2c], .int .u16 at_3, .int .u16 place_4] w R :=
  calls_of_compF noNum follows [] (f := 5) (fn := Go.Proofs.Tryd.f5) (body := Go.Proofs.Tryd.f5.body.getD .skip) (args := [.agg #[.int .u64 x1, .slice s2p s2l s2c], .int .u16 at_3, .int .u16 place_4]) rfl rfl (Nat.le_of_ble_eq_true rfl) ((congrFun (F5_eq _ x1 s2p s2l s2c at_3 place_4) w).mpr h)
theorem F5_call {x1 : Int} {s2p : Option Addr} {s2l : Nat} {s2c : Nat} {at_3 : Int} {place_4 : Int} {w : World} {g : Fn W (RTy.leaves (.s (.one .bool)))} (h : F5 (fun v => Back (.s (.one .bool)) g (.returned v)) x1 s2p s2l s2c at_3 place_4 w) : CallT Go.Proofs.Tryd.prog 5 [.agg #[.int .u64 x1, .slice s2p s2l s2c], .int .u16 at_3, .int .u16 place_4] (.s (.one .bool)) g w := F5_calls h

/-! ## spec.BSSame -/
def F22 (k : Value → W) (x1 : Int) (s2p : Option Addr) (s2l : Nat) (s2c : Nat) (x3 : Int) (s4p : Option Addr) (s4l : Nat) (s4c : Nat) : W :=
 New [.int .u64 x1, .slice s2p s2l s2c] 25 fun n5 =>
 New [.int .u64 x3, .slice s4p s4l s4c] 25 fun n6 =>
 LoadT (.int .u64) ⟨n5, 0, none⟩ fun x7 =>
 LoadT (.int .u64) ⟨n6, 0, none⟩ fun x8 =>
 BIf (x7 == x8) (
  LoadT .slice ⟨n5, 1, none⟩ fun s9p s9l s9c =>
  LoadT .slice ⟨n6, 1, none⟩ fun s10p s10l s10c =>
  CallT Go.Proofs.Tryd.prog 11 [.slice s9p s9l s9c, .slice s10p s10l s10c] (.s (.one .bool)) fun b11 =>
  k (.bool b11)) (
  k (.bool false))
theorem F22_eq (k : Value → W) (x1 : Int) (s2p : Option Addr) (s2l : Nat) (s2c : Nat) (x3 : Int) (s4p : Option Addr) (s4l : Nat) (s4c : Nat) : compF Go.Proofs.Tryd.prog Go.Proofs.Tryd.f22 [] (Go.Proofs.Tryd.f22.body.getD .skip) [.agg #[.int .u64 x1, .slice s2p s2l s2c], .agg #[.int .u64 x3, .slice s4p s4l s4c]] k = F22 k x1 s2p s2l s2c x3 s4p s4l s4c := by kernel_rfl
theorem F22_calls {x1 : Int} {s2p : Option Addr} {s2l : Nat} {s2c : Nat} {x3 : Int} {s4p : Option Addr} {s4l : Nat} {s4c : Nat} {w : World} {R : Ending → World → Prop} (h : F22 (fun v w => R (.returned v) w) x1 s2p s2l s2c x3 s4p s4l s4c w) : Calls Go.Proofs.Tryd.prog 22 #[.agg #[.int .u64 x1, .slice s2p s2l s2c], .agg #[.int .u64 x3, .slice s4p s4l s4c]] w R :=
  calls_of_compF noNum follows [] (f := 22) (fn := Go.Proofs.Tryd.f22) (body := Go.Proofs.Tryd.f22.body.getD .skip) (args := [.agg #[.int .u64 x1, .slice s2p s2l s2c], .agg #[.int .u64 x3, .slice s4p s4l s4c]]) rfl rfl (Nat.le_of_ble_eq_true rfl) ((congrFun (F22_eq _ x1 s2p s2l s2c x3 s4p s4l s4c) w).mpr h)
theorem F22_call {x1 : Int} {s2p : Option Addr} {s2l : Nat} {s2c : Nat} {x3 : Int} {s4p : Option Addr} {s4l : Nat} {s4c : Nat} {w : World} {g : Fn W (RTy.leaves (.s (.one .bool)))} (h : F22 (fun v => Back (.s (.one .bool)) g (.returned v)) x1 s2p s2l s2c x3 s4p s4l s4c w) : CallT Go.Proofs.Tryd.prog 22 [.agg #[.int .u64 x1, .slice s2p s2l s2c], .agg #[.int .u64 x3, .slice s4p s4l s4c]] (.s (.one .bool)) g w := F22_calls h

/-! ## bitset.BitSet).All -/
def F46 (k : Value → W) (b_1 : Option Addr) : W :=
 CallT Go.Proofs.Tryd.prog 55 [.pointer b_1] (.tup []) <|
 Drw <|
 NN b_1 fun a2 =>
 LoadT (.int .u64) a2 fun x3 =>
 CallT Go.Proofs.Tryd.prog 35 [.pointer b_1] (.s (.one (.int .u64))) fun x4 =>
 Chk1 a2 (.int .u64 x3) <|
 k (.bool (x4 == x3))
theorem F46_eq (k : Value → W) (b_1 : Option Addr) : compF Go.Proofs.Tryd.prog Go.Proofs.Tryd.f46 [] (Go.Proofs.Tryd.f46.body.getD .skip) [.pointer b_1] k = F46 k b_1 := by kernel_rfl
theorem F46_calls {b_1 : Option Addr} {w : World} {R : Ending → World → Prop} (h : F46 (fun v w => R (.returned v) w) b_1 w) : Calls Go.Proofs.Tryd.prog 46 #[.pointer b_1] w R :=
  calls_of_compF noNum follows [] (f := 46) (fn := Go.Proofs.Tryd.f46) (body := Go.Proofs.Tryd.f46.body.getD .skip) (args := [.pointer b_1]) rfl rfl (Nat.le_of_ble_eq_true rfl) ((congrFun (F46_eq _ b_1) w).mpr h)
theorem F46_call {b_1 : Option Addr} {w : World} {g : Fn W (RTy.leaves (.s (.one .bool)))} (h : F46 (fun v => Back (.s (.one .bool)) g (.returned v)) b_1 w) : CallT Go.Proofs.Tryd.prog 46 [.pointer b_1] (.s (.one .bool)) g w := F46_calls h

/-! ## impl.BSAll -/
def F25 (k : Value → W) (x1 : Int) (s2p : Option Addr) (s2l : Nat) (s2c : Nat) : W :=
 New [.int .u64 x1, .slice s2p s2l s2c] 25 fun n3 =>
 LoadT (.int .u64) ⟨n3, 0, none⟩ fun x4 =>
 LoadT .slice ⟨n3, 1, none⟩ fun s5p s5l s5c =>
 CallT Go.Proofs.Tryd.prog 29 [.agg #[.int .u64 x4, .slice s5p s5l s5c]] (.s (.one .ptr)) fun p6 =>
 CallT Go.Proofs.Tryd.prog 46 [.pointer p6] (.s (.one .bool)) fun b7 =>
 k (.bool b7)
theorem F25_eq (k : Value → W) (x1 : Int) (s2p : Option Addr) (s2l : Nat) (s2c : Nat) : compF Go.Proofs.Tryd.prog Go.Proofs.Tryd.f25 [] (Go.Proofs.Tryd.f25.body.getD .skip) [.agg #[.int .u64 x1, .slice s2p s2l s2c]] k = F25 k x1 s2p s2l s2c := by kernel_rfl
theorem F25_calls {x1 : Int} {s2p : Option Addr} {s2l : Nat} {s2c : Nat} {w : World} {R : Ending → World → Prop} (h : F25 (fun v w => R (.returned v) w) x1 s2p s2l s2c w) : Calls Go.Proofs.Tryd.prog 25 #[.agg #[.int .u64 x1, .slice s2p s2l s2c]] w R :=
  calls_of_compF noNum follows [] (f := 25) (fn := Go.Proofs.Tryd.f25) (body := Go.Proofs.Tryd.f25.body.getD .skip) (args := [.agg #[.int .u64 x1, .slice s2p s2l s2c]]) rfl rfl (Nat.le_of_ble_eq_true rfl) ((congrFun (F25_eq _ x1 s2p s2l s2c) w).mpr h)
theorem F25_call {x1 : Int} {s2p : Option Addr} {s2l : Nat} {s2c : Nat} {w : World} {g : Fn W (RTy.leaves (.s (.one .bool)))} (h : F25 (fun v => Back (.s (.one .bool)) g (.returned v)) x1 s2p s2l s2c w) : CallT Go.Proofs.Tryd.prog 25 [.agg #[.int .u64 x1, .slice s2p s2l s2c]] (.s (.one .bool)) g w := F25_calls h

/-! ## bitset.BitSet).None -/
def F48_L1 (k : Value → W) (again11 : Option Addr → Nat → Nat → Int → Int → W) (s8p : Option Addr) (s8l : Nat) (s8c : Nat) (x9 : Int) (x10 : Int) : W :=
 BIf (decide (x10 < x9)) (
  NN s8p fun a12 =>
  Req (0 ≤ x10 ∧ x10 < ((s8l : Nat) : Int)) <|
  LoadT (.int .u64) (a12.add x10.toNat) fun x13 =>
  BIf (decide (x13 > 0)) (
   k (.bool false)) (
   again11 s8p s8l s8c x9 (addI .i64 x10 1))) (
  k (.bool true))
theorem F48_L1_rule {k : Value → W} (I : Option Addr → Nat → Nat → Int → Int → W) (μ : Option Addr → Nat → Nat → Int → Int → World → Nat)
  (hr : ∀ (s8p : Option Addr) (s8l : Nat) (s8c : Nat) (x9 : Int) (x10 : Int) (w : World), I s8p s8l s8c x9 x10 w → F48_L1 k (fun s8p' s8l' s8c' x9' x10' w' => I s8p' s8l' s8c' x9' x10' w' ∧ μ s8p' s8l' s8c' x9' x10' w' < μ s8p s8l s8c x9 x10 w) s8p s8l s8c x9 x10 w)
  {w : World} {s8p : Option Addr} {s8l : Nat} {s8c : Nat} {x9 : Int} {x10 : Int} (h : I s8p s8l s8c x9 x10 w) : Loop [.slice, (.int .i64), (.int .i64)] (F48_L1 k) s8p s8l s8c x9 x10 w :=
  Loop_intro (ts := [.slice, (.int .i64), (.int .i64)]) (s := ((s8p, s8l, s8c), x9, x10, ())) (fun s w => I s.1.1 s.1.2.1 s.1.2.2 s.2.1 s.2.2.1 w) (fun s w => μ s.1.1 s.1.2.1 s.1.2.2 s.2.1 s.2.2.1 w) h (fun s w h => hr s.1.1 s.1.2.1 s.1.2.2 s.2.1 s.2.2.1 w h)
def F48_J1 (k : Value → W) (b_4 : Option Addr) (b5 : Bool) : W :=
 BIf b5 (
  NN b_4 fun a6 =>
  LoadT .slice (a6.add 1) fun s7p s7l s7c =>
  Loop [.slice, (.int .i64), (.int .i64)] (F48_L1 k) s7p s7l s7c ((s7l : Nat) : Int) 0) (
  k (.bool true))
def F48 (k : Value → W) (b_1 : Option Addr) : W :=
 CallT Go.Proofs.Tryd.prog 55 [.pointer b_1] (.tup []) <|
 BIf (!b_1.isNone) (
  NN b_1 fun a2 =>
  LoadT .slice (a2.add 1) fun s3p s3l s3c =>
  F48_J1 k b_1 (!s3p.isNone)) (
  F48_J1 k b_1 false)
theorem F48_eq (k : Value → W) (b_1 : Option Addr) : compF Go.Proofs.Tryd.prog Go.Proofs.Tryd.f48 [(4, [(19, .slice), (20, (.int .i64)), (21, (.int .i64))])] (Go.Proofs.Tryd.f48.body.getD .skip) [.pointer b_1] k = F48 k b_1 := by kernel_rfl
theorem F48_calls {b_1 : Option Addr} {w : World} {R : Ending → World → Prop} (h : F48 (fun v w => R (.returned v) w) b_1 w) : Calls Go.Proofs.Tryd.prog 48 #[.pointer b_1] w R :=
  calls_of_compF noNum follows [(4, [(19, .slice), (20, (.int .i64)), (21, (.int .i64))])] (f := 48) (fn := Go.Proofs.Tryd.f48) (body := Go.Proofs.Tryd.f48.body.getD .skip) (args := [.pointer b_1]) rfl rfl (Nat.le_of_ble_eq_true rfl) ((congrFun (F48_eq _ b_1) w).mpr h)
theorem F48_call {b_1 : Option Addr} {w : World} {g : Fn W (RTy.leaves (.s (.one .bool)))} (h : F48 (fun v => Back (.s (.one .bool)) g (.returned v)) b_1 w) : CallT Go.Proofs.Tryd.prog 48 [.pointer b_1] (.s (.one .bool)) g w := F48_calls h

/-! ## impl.BSNone -/
def F27 (k : Value → W) (x1 : Int) (s2p : Option Addr) (s2l : Nat) (s2c : Nat) : W :=
 New [.int .u64 x1, .slice s2p s2l s2c] 25 fun n3 =>
 LoadT (.int .u64) ⟨n3, 0, none⟩ fun x4 =>
 LoadT .slice ⟨n3, 1, none⟩ fun s5p s5l s5c =>
 CallT Go.Proofs.Tryd.prog 29 [.agg #[.int .u64 x4, .slice s5p s5l s5c]] (.s (.one .ptr)) fun p6 =>
 CallT Go.Proofs.Tryd.prog 48 [.pointer p6] (.s (.one .bool)) fun b7 =>
 k (.bool b7)
theorem F27_eq (k : Value → W) (x1 : Int) (s2p : Option Addr) (s2l : Nat) (s2c : Nat) : compF Go.Proofs.Tryd.prog Go.Proofs.Tryd.f27 [] (Go.Proofs.Tryd.f27.body.getD .skip) [.agg #[.int .u64 x1, .slice s2p s2l s2c]] k = F27 k x1 s2p s2l s2c := by kernel_rfl
theorem F27_calls {x1 : Int} {s2p : Option Addr} {s2l : Nat} {s2c : Nat} {w : World} {R : Ending → World → Prop} (h : F27 (fun v w => R (.returned v) w) x1 s2p s2l s2c w) : Calls Go.Proofs.Tryd.prog 27 #[.agg #[.int .u64 x1, .slice s2p s2l s2c]] w R :=
  calls_of_compF noNum follows [] (f := 27) (fn := Go.Proofs.Tryd.f27) (body := Go.Proofs.Tryd.f27.body.getD .skip) (args := [.agg #[.int .u64 x1, .slice s2p s2l s2c]]) rfl rfl (Nat.le_of_ble_eq_true rfl) ((congrFun (F27_eq _ x1 s2p s2l s2c) w).mpr h)
theorem F27_call {x1 : Int} {s2p : Option Addr} {s2l : Nat} {s2c : Nat} {w : World} {g : Fn W (RTy.leaves (.s (.one .bool)))} (h : F27 (fun v => Back (.s (.one .bool)) g (.returned v)) x1 s2p s2l s2c w) : CallT Go.Proofs.Tryd.prog 27 [.agg #[.int .u64 x1, .slice s2p s2l s2c]] (.s (.one .bool)) g w := F27_calls h

/-! ## laws.FnBSDeepComplement -/
def F6 (k : Value → W) (x1 : Int) (s2p : Option Addr) (s2l : Nat) (s2c : Nat) (at_3 : Int) : W :=
 New [.int .u64 x1, .slice s2p s2l s2c] 25 fun n4 =>
 LoadT (.int .u64) ⟨n4, 0, none⟩ fun x5 =>
 LoadT .slice ⟨n4, 1, none⟩ fun s6p s6l s6c =>
 CallT Go.Proofs.Tryd.prog 7 [.agg #[.int .u64 x5, .slice s6p s6l s6c]] (.s (.one .bool)) fun b7 =>
 BIf (!b7) (
  k (.bool true)) (
  LoadT (.int .u64) ⟨n4, 0, none⟩ fun x8 =>
  LoadT .slice ⟨n4, 1, none⟩ fun s9p s9l s9c =>
  CallT Go.Proofs.Tryd.prog 9 [.agg #[.int .u64 x8, .slice s9p s9l s9c]] (.s (.agg [(.int .u64), .slice])) fun x10 s11p s11l s11c =>
  Req (400 ≠ (0 : Int)) <|
  CallT Go.Proofs.Tryd.prog 8 [.agg #[.int .u64 x10, .slice s11p s11l s11c], .int .u64 (remI (IntKind.wrap .u64 at_3) 400)] (.s (.agg [(.int .u64), .slice])) fun x12 s13p s13l s13c =>
  New [.int .u64 0, .slice none 0 0] 25 fun n14 =>
  Store1 ⟨n14, 0, none⟩ (.int .u64 x12) <|
  Store1 ⟨n14, 1, none⟩ (.slice s13p s13l s13c) <|
  LoadT (.int .u64) ⟨n14, 0, none⟩ fun x15 =>
  LoadT .slice ⟨n14, 1, none⟩ fun s16p s16l s16c =>
  CallT Go.Proofs.Tryd.prog 21 [.agg #[.int .u64 x15, .slice s16p s16l s16c]] (.s (.agg [(.int .u64), .slice])) fun x17 s18p s18l s18c =>
  New [.int .u64 0, .slice none 0 0] 25 fun n19 =>
  Store1 ⟨n19, 0, none⟩ (.int .u64 x17) <|
  Store1 ⟨n19, 1, none⟩ (.slice s18p s18l s18c) <|
  LoadT (.int .u64) ⟨n14, 0, none⟩ fun x20 =>
  BIf (x20 == 0) (
   k (.bool false)) (
   LoadT (.int .u64) ⟨n14, 0, none⟩ fun x21 =>
   Req (x21 ≠ (0 : Int)) <|
   Bind (remI (IntKind.wrap .u64 at_3) x21 : Int) fun i_22 =>
   LoadT (.int .u64) ⟨n14, 0, none⟩ fun x23 =>
   LoadT .slice ⟨n14, 1, none⟩ fun s24p s24l s24c =>
   CallT Go.Proofs.Tryd.prog 14 [.agg #[.int .u64 x23, .slice s24p s24l s24c], .int .u64 i_22] (.tup [(.one (.int .u64)), (.one .bool)]) fun x25 b26 =>
   LoadT (.int .u64) ⟨n19, 0, none⟩ fun x27 =>
   LoadT .slice ⟨n19, 1, none⟩ fun s28p s28l s28c =>
   CallT Go.Proofs.Tryd.prog 10 [.agg #[.int .u64 x27, .slice s28p s28l s28c], .int .u64 i_22] (.tup [(.one (.int .u64)), (.one .bool)]) fun x29 b30 =>
   Drw <|
   LoadT (.int .u64) ⟨n19, 0, none⟩ fun x31 =>
   LoadT .slice ⟨n19, 1, none⟩ fun s32p s32l s32c =>
   LoadT (.int .u64) ⟨n14, 0, none⟩ fun x33 =>
   LoadT .slice ⟨n14, 1, none⟩ fun s34p s34l s34c =>
   CallT Go.Proofs.Tryd.prog 21 [.agg #[.int .u64 x31, .slice s32p s32l s32c]] (.s (.agg [(.int .u64), .slice])) fun x35 s36p s36l s36c =>
   Chk1 ⟨n14, 0, none⟩ (.int .u64 x33) <|
   Chk1 ⟨n14, 1, none⟩ (.slice s34p s34l s34c) <|
   CallT Go.Proofs.Tryd.prog 22 [.agg #[.int .u64 x35, .slice s36p s36l s36c], .agg #[.int .u64 x33, .slice s34p s34l s34c]] (.s (.one .bool)) fun b37 =>
   Chk1 ⟨n19, 0, none⟩ (.int .u64 x31) <|
   Chk1 ⟨n19, 1, none⟩ (.slice s32p s32l s32c) <|
   BIf b37 (
    LoadT (.int .u64) ⟨n14, 0, none⟩ fun x38 =>
    LoadT .slice ⟨n14, 1, none⟩ fun s39p s39l s39c =>
    LoadT (.int .u64) ⟨n19, 0, none⟩ fun x40 =>
    LoadT .slice ⟨n19, 1, none⟩ fun s41p s41l s41c =>
    LoadT (.int .u64) ⟨n14, 0, none⟩ fun x42 =>
    LoadT .slice ⟨n14, 1, none⟩ fun s43p s43l s43c =>
    CallT Go.Proofs.Tryd.prog 18 [.agg #[.int .u64 x38, .slice s39p s39l s39c]] (.s (.one (.int .u64))) fun x44 =>
    Chk1 ⟨n14, 0, none⟩ (.int .u64 x42) <|
    Chk1 ⟨n14, 1, none⟩ (.slice s43p s43l s43c) <|
    Chk1 ⟨n19, 0, none⟩ (.int .u64 x40) <|
    Chk1 ⟨n19, 1, none⟩ (.slice s41p s41l s41c) <|
    Chk1 ⟨n14, 0, none⟩ (.int .u64 x33) <|
    Chk1 ⟨n14, 1, none⟩ (.slice s34p s34l s34c) <|
    Chk1 ⟨n19, 0, none⟩ (.int .u64 x31) <|
    Chk1 ⟨n19, 1, none⟩ (.slice s32p s32l s32c) <|
    CallT Go.Proofs.Tryd.prog 18 [.agg #[.int .u64 x40, .slice s41p s41l s41c]] (.s (.one (.int .u64))) fun x45 =>
    Chk1 ⟨n14, 0, none⟩ (.int .u64 x42) <|
    Chk1 ⟨n14, 1, none⟩ (.slice s43p s43l s43c) <|
    Chk1 ⟨n14, 0, none⟩ (.int .u64 x38) <|
    Chk1 ⟨n14, 1, none⟩ (.slice s39p s39l s39c) <|
    Chk1 ⟨n14, 0, none⟩ (.int .u64 x33) <|
    Chk1 ⟨n14, 1, none⟩ (.slice s34p s34l s34c) <|
    Chk1 ⟨n19, 0, none⟩ (.int .u64 x31) <|
    Chk1 ⟨n19, 1, none⟩ (.slice s32p s32l s32c) <|
    CallT Go.Proofs.Tryd.prog 23 [.agg #[.int .u64 x42, .slice s43p s43l s43c]] (.s (.one (.int .u64))) fun x46 =>
    Chk1 ⟨n19, 0, none⟩ (.int .u64 x40) <|
    Chk1 ⟨n19, 1, none⟩ (.slice s41p s41l s41c) <|
    Chk1 ⟨n14, 0, none⟩ (.int .u64 x38) <|
    Chk1 ⟨n14, 1, none⟩ (.slice s39p s39l s39c) <|
    Chk1 ⟨n14, 0, none⟩ (.int .u64 x33) <|
    Chk1 ⟨n14, 1, none⟩ (.slice s34p s34l s34c) <|
    Chk1 ⟨n19, 0, none⟩ (.int .u64 x31) <|
    Chk1 ⟨n19, 1, none⟩ (.slice s32p s32l s32c) <|
    BIf ((addI .u64 x44 x45) == x46) (
     BIf (b26 == b30) (
      BIf (!b26) (
       LoadT (.int .u64) ⟨n14, 0, none⟩ fun x47 =>
       LoadT .slice ⟨n14, 1, none⟩ fun s48p s48l s48c =>
       LoadT (.int .u64) ⟨n19, 0, none⟩ fun x49 =>
       LoadT .slice ⟨n19, 1, none⟩ fun s50p s50l s50c =>
       LoadT (.int .u64) ⟨n14, 0, none⟩ fun x51 =>
       LoadT .slice ⟨n14, 1, none⟩ fun s52p s52l s52c =>
       CallT Go.Proofs.Tryd.prog 24 [.agg #[.int .u64 x47, .slice s48p s48l s48c], .agg #[.int .u64 x49, .slice s50p s50l s50c]] (.s (.one (.int .u64))) fun x53 =>
       Chk1 ⟨n14, 0, none⟩ (.int .u64 x51) <|
       Chk1 ⟨n14, 1, none⟩ (.slice s52p s52l s52c) <|
       Chk1 ⟨n14, 0, none⟩ (.int .u64 x42) <|
       Chk1 ⟨n14, 1, none⟩ (.slice s43p s43l s43c) <|
       Chk1 ⟨n19, 0, none⟩ (.int .u64 x40) <|
       Chk1 ⟨n19, 1, none⟩ (.slice s41p s41l s41c) <|
       Chk1 ⟨n14, 0, none⟩ (.int .u64 x38) <|
       Chk1 ⟨n14, 1, none⟩ (.slice s39p s39l s39c) <|
       Chk1 ⟨n14, 0, none⟩ (.int .u64 x33) <|
       Chk1 ⟨n14, 1, none⟩ (.slice s34p s34l s34c) <|
       Chk1 ⟨n19, 0, none⟩ (.int .u64 x31) <|
       Chk1 ⟨n19, 1, none⟩ (.slice s32p s32l s32c) <|
       CallT Go.Proofs.Tryd.prog 23 [.agg #[.int .u64 x51, .slice s52p s52l s52c]] (.s (.one (.int .u64))) fun x54 =>
       Chk1 ⟨n19, 0, none⟩ (.int .u64 x49) <|
       Chk1 ⟨n19, 1, none⟩ (.slice s50p s50l s50c) <|
       Chk1 ⟨n14, 0, none⟩ (.int .u64 x47) <|
       Chk1 ⟨n14, 1, none⟩ (.slice s48p s48l s48c) <|
       Chk1 ⟨n14, 0, none⟩ (.int .u64 x42) <|
       Chk1 ⟨n14, 1, none⟩ (.slice s43p s43l s43c) <|
       Chk1 ⟨n19, 0, none⟩ (.int .u64 x40) <|
       Chk1 ⟨n19, 1, none⟩ (.slice s41p s41l s41c) <|
       Chk1 ⟨n14, 0, none⟩ (.int .u64 x38) <|
       Chk1 ⟨n14, 1, none⟩ (.slice s39p s39l s39c) <|
       Chk1 ⟨n14, 0, none⟩ (.int .u64 x33) <|
       Chk1 ⟨n14, 1, none⟩ (.slice s34p s34l s34c) <|
       Chk1 ⟨n19, 0, none⟩ (.int .u64 x31) <|
       Chk1 ⟨n19, 1, none⟩ (.slice s32p s32l s32c) <|
       BIf (x53 == x54) (
        LoadT (.int .u64) ⟨n14, 0, none⟩ fun x55 =>
        LoadT .slice ⟨n14, 1, none⟩ fun s56p s56l s56c =>
        CallT Go.Proofs.Tryd.prog 26 [.agg #[.int .u64 x55, .slice s56p s56l s56c]] (.s (.agg [(.int .u64), .slice])) fun x57 s58p s58l s58c =>
        Chk1 ⟨n14, 0, none⟩ (.int .u64 x51) <|
        Chk1 ⟨n14, 1, none⟩ (.slice s52p s52l s52c) <|
        Chk1 ⟨n19, 0, none⟩ (.int .u64 x49) <|
        Chk1 ⟨n19, 1, none⟩ (.slice s50p s50l s50c) <|
        Chk1 ⟨n14, 0, none⟩ (.int .u64 x47) <|
        Chk1 ⟨n14, 1, none⟩ (.slice s48p s48l s48c) <|
        Chk1 ⟨n14, 0, none⟩ (.int .u64 x42) <|
        Chk1 ⟨n14, 1, none⟩ (.slice s43p s43l s43c) <|
        Chk1 ⟨n19, 0, none⟩ (.int .u64 x40) <|
        Chk1 ⟨n19, 1, none⟩ (.slice s41p s41l s41c) <|
        Chk1 ⟨n14, 0, none⟩ (.int .u64 x38) <|
        Chk1 ⟨n14, 1, none⟩ (.slice s39p s39l s39c) <|
        Chk1 ⟨n14, 0, none⟩ (.int .u64 x33) <|
        Chk1 ⟨n14, 1, none⟩ (.slice s34p s34l s34c) <|
        Chk1 ⟨n19, 0, none⟩ (.int .u64 x31) <|
        Chk1 ⟨n19, 1, none⟩ (.slice s32p s32l s32c) <|
        CallT Go.Proofs.Tryd.prog 25 [.agg #[.int .u64 x57, .slice s58p s58l s58c]] (.s (.one .bool)) fun b59 =>
        Chk1 ⟨n14, 0, none⟩ (.int .u64 x55) <|
        Chk1 ⟨n14, 1, none⟩ (.slice s56p s56l s56c) <|
        Chk1 ⟨n14, 0, none⟩ (.int .u64 x51) <|
        Chk1 ⟨n14, 1, none⟩ (.slice s52p s52l s52c) <|
        Chk1 ⟨n19, 0, none⟩ (.int .u64 x49) <|
        Chk1 ⟨n19, 1, none⟩ (.slice s50p s50l s50c) <|
        Chk1 ⟨n14, 0, none⟩ (.int .u64 x47) <|
        Chk1 ⟨n14, 1, none⟩ (.slice s48p s48l s48c) <|
        Chk1 ⟨n14, 0, none⟩ (.int .u64 x42) <|
        Chk1 ⟨n14, 1, none⟩ (.slice s43p s43l s43c) <|
        Chk1 ⟨n19, 0, none⟩ (.int .u64 x40) <|
        Chk1 ⟨n19, 1, none⟩ (.slice s41p s41l s41c) <|
        Chk1 ⟨n14, 0, none⟩ (.int .u64 x38) <|
        Chk1 ⟨n14, 1, none⟩ (.slice s39p s39l s39c) <|
        Chk1 ⟨n14, 0, none⟩ (.int .u64 x33) <|
        Chk1 ⟨n14, 1, none⟩ (.slice s34p s34l s34c) <|
        Chk1 ⟨n19, 0, none⟩ (.int .u64 x31) <|
        Chk1 ⟨n19, 1, none⟩ (.slice s32p s32l s32c) <|
        BIf b59 (
         LoadT (.int .u64) ⟨n14, 0, none⟩ fun x60 =>
         LoadT .slice ⟨n14, 1, none⟩ fun s61p s61l s61c =>
         LoadT (.int .u64) ⟨n19, 0, none⟩ fun x62 =>
         LoadT .slice ⟨n19, 1, none⟩ fun s63p s63l s63c =>
         CallT Go.Proofs.Tryd.prog 28 [.agg #[.int .u64 x60, .slice s61p s61l s61c], .agg #[.int .u64 x62, .slice s63p s63l s63c]] (.s (.agg [(.int .u64), .slice])) fun x64 s65p s65l s65c =>
         Chk1 ⟨n14, 0, none⟩ (.int .u64 x55) <|
         Chk1 ⟨n14, 1, none⟩ (.slice s56p s56l s56c) <|
         Chk1 ⟨n14, 0, none⟩ (.int .u64 x51) <|
         Chk1 ⟨n14, 1, none⟩ (.slice s52p s52l s52c) <|
         Chk1 ⟨n19, 0, none⟩ (.int .u64 x49) <|
         Chk1 ⟨n19, 1, none⟩ (.slice s50p s50l s50c) <|
         Chk1 ⟨n14, 0, none⟩ (.int .u64 x47) <|
         Chk1 ⟨n14, 1, none⟩ (.slice s48p s48l s48c) <|
         Chk1 ⟨n14, 0, none⟩ (.int .u64 x42) <|
         Chk1 ⟨n14, 1, none⟩ (.slice s43p s43l s43c) <|
         Chk1 ⟨n19, 0, none⟩ (.int .u64 x40) <|
         Chk1 ⟨n19, 1, none⟩ (.slice s41p s41l s41c) <|
         Chk1 ⟨n14, 0, none⟩ (.int .u64 x38) <|
         Chk1 ⟨n14, 1, none⟩ (.slice s39p s39l s39c) <|
         Chk1 ⟨n14, 0, none⟩ (.int .u64 x33) <|
         Chk1 ⟨n14, 1, none⟩ (.slice s34p s34l s34c) <|
         Chk1 ⟨n19, 0, none⟩ (.int .u64 x31) <|
         Chk1 ⟨n19, 1, none⟩ (.slice s32p s32l s32c) <|
         CallT Go.Proofs.Tryd.prog 27 [.agg #[.int .u64 x64, .slice s65p s65l s65c]] (.s (.one .bool)) fun b66 =>
         Chk1 ⟨n19, 0, none⟩ (.int .u64 x62) <|
         Chk1 ⟨n19, 1, none⟩ (.slice s63p s63l s63c) <|
         Chk1 ⟨n14, 0, none⟩ (.int .u64 x60) <|
         Chk1 ⟨n14, 1, none⟩ (.slice s61p s61l s61c) <|
         Chk1 ⟨n14, 0, none⟩ (.int .u64 x55) <|
         Chk1 ⟨n14, 1, none⟩ (.slice s56p s56l s56c) <|
         Chk1 ⟨n14, 0, none⟩ (.int .u64 x51) <|
         Chk1 ⟨n14, 1, none⟩ (.slice s52p s52l s52c) <|
         Chk1 ⟨n19, 0, none⟩ (.int .u64 x49) <|
         Chk1 ⟨n19, 1, none⟩ (.slice s50p s50l s50c) <|
         Chk1 ⟨n14, 0, none⟩ (.int .u64 x47) <|
         Chk1 ⟨n14, 1, none⟩ (.slice s48p s48l s48c) <|
         Chk1 ⟨n14, 0, none⟩ (.int .u64 x42) <|
         Chk1 ⟨n14, 1, none⟩ (.slice s43p s43l s43c) <|
         Chk1 ⟨n19, 0, none⟩ (.int .u64 x40) <|
         Chk1 ⟨n19, 1, none⟩ (.slice s41p s41l s41c) <|
         Chk1 ⟨n14, 0, none⟩ (.int .u64 x38) <|
         Chk1 ⟨n14, 1, none⟩ (.slice s39p s39l s39c) <|
         Chk1 ⟨n14, 0, none⟩ (.int .u64 x33) <|
         Chk1 ⟨n14, 1, none⟩ (.slice s34p s34l s34c) <|
         Chk1 ⟨n19, 0, none⟩ (.int .u64 x31) <|
         Chk1 ⟨n19, 1, none⟩ (.slice s32p s32l s32c) <|
         BIf b66 (
          LoadT (.int .u64) ⟨n14, 0, none⟩ fun x67 =>
          LoadT .slice ⟨n14, 1, none⟩ fun s68p s68l s68c =>
          CallT Go.Proofs.Tryd.prog 18 [.agg #[.int .u64 x67, .slice s68p s68l s68c]] (.s (.one (.int .u64))) fun x69 =>
          Chk1 ⟨n19, 0, none⟩ (.int .u64 x62) <|
          Chk1 ⟨n19, 1, none⟩ (.slice s63p s63l s63c) <|
          Chk1 ⟨n14, 0, none⟩ (.int .u64 x60) <|
          Chk1 ⟨n14, 1, none⟩ (.slice s61p s61l s61c) <|
          Chk1 ⟨n14, 0, none⟩ (.int .u64 x55) <|
          Chk1 ⟨n14, 1, none⟩ (.slice s56p s56l s56c) <|
          Chk1 ⟨n14, 0, none⟩ (.int .u64 x51) <|
          Chk1 ⟨n14, 1, none⟩ (.slice s52p s52l s52c) <|
          Chk1 ⟨n19, 0, none⟩ (.int .u64 x49) <|
          Chk1 ⟨n19, 1, none⟩ (.slice s50p s50l s50c) <|
          Chk1 ⟨n14, 0, none⟩ (.int .u64 x47) <|
          Chk1 ⟨n14, 1, none⟩ (.slice s48p s48l s48c) <|
          Chk1 ⟨n14, 0, none⟩ (.int .u64 x42) <|
          Chk1 ⟨n14, 1, none⟩ (.slice s43p s43l s43c) <|
          Chk1 ⟨n19, 0, none⟩ (.int .u64 x40) <|
          Chk1 ⟨n19, 1, none⟩ (.slice s41p s41l s41c) <|
          Chk1 ⟨n14, 0, none⟩ (.int .u64 x38) <|
          Chk1 ⟨n14, 1, none⟩ (.slice s39p s39l s39c) <|
          Chk1 ⟨n14, 0, none⟩ (.int .u64 x33) <|
          Chk1 ⟨n14, 1, none⟩ (.slice s34p s34l s34c) <|
          Chk1 ⟨n19, 0, none⟩ (.int .u64 x31) <|
          Chk1 ⟨n19, 1, none⟩ (.slice s32p s32l s32c) <|
          k (.bool (decide (x69 > 0)))) (
          k (.bool false))) (
         k (.bool false))) (
        k (.bool false))) (
       BIf (x25 == x29) (
        LoadT (.int .u64) ⟨n14, 0, none⟩ fun x70 =>
        LoadT .slice ⟨n14, 1, none⟩ fun s71p s71l s71c =>
        LoadT (.int .u64) ⟨n19, 0, none⟩ fun x72 =>
        LoadT .slice ⟨n19, 1, none⟩ fun s73p s73l s73c =>
        LoadT (.int .u64) ⟨n14, 0, none⟩ fun x74 =>
        LoadT .slice ⟨n14, 1, none⟩ fun s75p s75l s75c =>
        CallT Go.Proofs.Tryd.prog 24 [.agg #[.int .u64 x70, .slice s71p s71l s71c], .agg #[.int .u64 x72, .slice s73p s73l s73c]] (.s (.one (.int .u64))) fun x76 =>
        Chk1 ⟨n14, 0, none⟩ (.int .u64 x74) <|
        Chk1 ⟨n14, 1, none⟩ (.slice s75p s75l s75c) <|
        Chk1 ⟨n14, 0, none⟩ (.int .u64 x42) <|
        Chk1 ⟨n14, 1, none⟩ (.slice s43p s43l s43c) <|
        Chk1 ⟨n19, 0, none⟩ (.int .u64 x40) <|
        Chk1 ⟨n19, 1, none⟩ (.slice s41p s41l s41c) <|
        Chk1 ⟨n14, 0, none⟩ (.int .u64 x38) <|
        Chk1 ⟨n14, 1, none⟩ (.slice s39p s39l s39c) <|
        Chk1 ⟨n14, 0, none⟩ (.int .u64 x33) <|
        Chk1 ⟨n14, 1, none⟩ (.slice s34p s34l s34c) <|
        Chk1 ⟨n19, 0, none⟩ (.int .u64 x31) <|
        Chk1 ⟨n19, 1, none⟩ (.slice s32p s32l s32c) <|
        CallT Go.Proofs.Tryd.prog 23 [.agg #[.int .u64 x74, .slice s75p s75l s75c]] (.s (.one (.int .u64))) fun x77 =>
        Chk1 ⟨n19, 0, none⟩ (.int .u64 x72) <|
        Chk1 ⟨n19, 1, none⟩ (.slice s73p s73l s73c) <|
        Chk1 ⟨n14, 0, none⟩ (.int .u64 x70) <|
        Chk1 ⟨n14, 1, none⟩ (.slice s71p s71l s71c) <|
        Chk1 ⟨n14, 0, none⟩ (.int .u64 x42) <|
        Chk1 ⟨n14, 1, none⟩ (.slice s43p s43l s43c) <|
        Chk1 ⟨n19, 0, none⟩ (.int .u64 x40) <|
        Chk1 ⟨n19, 1, none⟩ (.slice s41p s41l s41c) <|
        Chk1 ⟨n14, 0, none⟩ (.int .u64 x38) <|
        Chk1 ⟨n14, 1, none⟩ (.slice s39p s39l s39c) <|
        Chk1 ⟨n14, 0, none⟩ (.int .u64 x33) <|
        Chk1 ⟨n14, 1, none⟩ (.slice s34p s34l s34c) <|
        Chk1 ⟨n19, 0, none⟩ (.int .u64 x31) <|
        Chk1 ⟨n19, 1, none⟩ (.slice s32p s32l s32c) <|
        BIf (x76 == x77) (
         LoadT (.int .u64) ⟨n14, 0, none⟩ fun x78 =>
         LoadT .slice ⟨n14, 1, none⟩ fun s79p s79l s79c =>
         CallT Go.Proofs.Tryd.prog 26 [.agg #[.int .u64 x78, .slice s79p s79l s79c]] (.s (.agg [(.int .u64), .slice])) fun x80 s81p s81l s81c =>
         Chk1 ⟨n14, 0, none⟩ (.int .u64 x74) <|
         Chk1 ⟨n14, 1, none⟩ (.slice s75p s75l s75c) <|
         Chk1 ⟨n19, 0, none⟩ (.int .u64 x72) <|
         Chk1 ⟨n19, 1, none⟩ (.slice s73p s73l s73c) <|
         Chk1 ⟨n14, 0, none⟩ (.int .u64 x70) <|
         Chk1 ⟨n14, 1, none⟩ (.slice s71p s71l s71c) <|
         Chk1 ⟨n14, 0, none⟩ (.int .u64 x42) <|
         Chk1 ⟨n14, 1, none⟩ (.slice s43p s43l s43c) <|
         Chk1 ⟨n19, 0, none⟩ (.int .u64 x40) <|
         Chk1 ⟨n19, 1, none⟩ (.slice s41p s41l s41c) <|
         Chk1 ⟨n14, 0, none⟩ (.int .u64 x38) <|
         Chk1 ⟨n14, 1, none⟩ (.slice s39p s39l s39c) <|
         Chk1 ⟨n14, 0, none⟩ (.int .u64 x33) <|
         Chk1 ⟨n14, 1, none⟩ (.slice s34p s34l s34c) <|
         Chk1 ⟨n19, 0, none⟩ (.int .u64 x31) <|
         Chk1 ⟨n19, 1, none⟩ (.slice s32p s32l s32c) <|
         CallT Go.Proofs.Tryd.prog 25 [.agg #[.int .u64 x80, .slice s81p s81l s81c]] (.s (.one .bool)) fun b82 =>
         Chk1 ⟨n14, 0, none⟩ (.int .u64 x78) <|
         Chk1 ⟨n14, 1, none⟩ (.slice s79p s79l s79c) <|
         Chk1 ⟨n14, 0, none⟩ (.int .u64 x74) <|
         Chk1 ⟨n14, 1, none⟩ (.slice s75p s75l s75c) <|
         Chk1 ⟨n19, 0, none⟩ (.int .u64 x72) <|
         Chk1 ⟨n19, 1, none⟩ (.slice s73p s73l s73c) <|
         Chk1 ⟨n14, 0, none⟩ (.int .u64 x70) <|
         Chk1 ⟨n14, 1, none⟩ (.slice s71p s71l s71c) <|
         Chk1 ⟨n14, 0, none⟩ (.int .u64 x42) <|
         Chk1 ⟨n14, 1, none⟩ (.slice s43p s43l s43c) <|
         Chk1 ⟨n19, 0, none⟩ (.int .u64 x40) <|
         Chk1 ⟨n19, 1, none⟩ (.slice s41p s41l s41c) <|
         Chk1 ⟨n14, 0, none⟩ (.int .u64 x38) <|
         Chk1 ⟨n14, 1, none⟩ (.slice s39p s39l s39c) <|
         Chk1 ⟨n14, 0, none⟩ (.int .u64 x33) <|
         Chk1 ⟨n14, 1, none⟩ (.slice s34p s34l s34c) <|
         Chk1 ⟨n19, 0, none⟩ (.int .u64 x31) <|
         Chk1 ⟨n19, 1, none⟩ (.slice s32p s32l s32c) <|
         BIf b82 (
          LoadT (.int .u64) ⟨n14, 0, none⟩ fun x83 =>
          LoadT .slice ⟨n14, 1, none⟩ fun s84p s84l s84c =>
          LoadT (.int .u64) ⟨n19, 0, none⟩ fun x85 =>
          LoadT .slice ⟨n19, 1, none⟩ fun s86p s86l s86c =>
          CallT Go.Proofs.Tryd.prog 28 [.agg #[.int .u64 x83, .slice s84p s84l s84c], .agg #[.int .u64 x85, .slice s86p s86l s86c]] (.s (.agg [(.int .u64), .slice])) fun x87 s88p s88l s88c =>
          Chk1 ⟨n14, 0, none⟩ (.int .u64 x78) <|
          Chk1 ⟨n14, 1, none⟩ (.slice s79p s79l s79c) <|
          Chk1 ⟨n14, 0, none⟩ (.int .u64 x74) <|
          Chk1 ⟨n14, 1, none⟩ (.slice s75p s75l s75c) <|
          Chk1 ⟨n19, 0, none⟩ (.int .u64 x72) <|
          Chk1 ⟨n19, 1, none⟩ (.slice s73p s73l s73c) <|
          Chk1 ⟨n14, 0, none⟩ (.int .u64 x70) <|
          Chk1 ⟨n14, 1, none⟩ (.slice s71p s71l s71c) <|
          Chk1 ⟨n14, 0, none⟩ (.int .u64 x42) <|
          Chk1 ⟨n14, 1, none⟩ (.slice s43p s43l s43c) <|
          Chk1 ⟨n19, 0, none⟩ (.int .u64 x40) <|
          Chk1 ⟨n19, 1, none⟩ (.slice s41p s41l s41c) <|
          Chk1 ⟨n14, 0, none⟩ (.int .u64 x38) <|
          Chk1 ⟨n14, 1, none⟩ (.slice s39p s39l s39c) <|
          Chk1 ⟨n14, 0, none⟩ (.int .u64 x33) <|
          Chk1 ⟨n14, 1, none⟩ (.slice s34p s34l s34c) <|
          Chk1 ⟨n19, 0, none⟩ (.int .u64 x31) <|
          Chk1 ⟨n19, 1, none⟩ (.slice s32p s32l s32c) <|
          CallT Go.Proofs.Tryd.prog 27 [.agg #[.int .u64 x87, .slice s88p s88l s88c]] (.s (.one .bool)) fun b89 =>
          Chk1 ⟨n19, 0, none⟩ (.int .u64 x85) <|
          Chk1 ⟨n19, 1, none⟩ (.slice s86p s86l s86c) <|
          Chk1 ⟨n14, 0, none⟩ (.int .u64 x83) <|
          Chk1 ⟨n14, 1, none⟩ (.slice s84p s84l s84c) <|
          Chk1 ⟨n14, 0, none⟩ (.int .u64 x78) <|
          Chk1 ⟨n14, 1, none⟩ (.slice s79p s79l s79c) <|
          Chk1 ⟨n14, 0, none⟩ (.int .u64 x74) <|
          Chk1 ⟨n14, 1, none⟩ (.slice s75p s75l s75c) <|
          Chk1 ⟨n19, 0, none⟩ (.int .u64 x72) <|
          Chk1 ⟨n19, 1, none⟩ (.slice s73p s73l s73c) <|
          Chk1 ⟨n14, 0, none⟩ (.int .u64 x70) <|
          Chk1 ⟨n14, 1, none⟩ (.slice s71p s71l s71c) <|
          Chk1 ⟨n14, 0, none⟩ (.int .u64 x42) <|
          Chk1 ⟨n14, 1, none⟩ (.slice s43p s43l s43c) <|
          Chk1 ⟨n19, 0, none⟩ (.int .u64 x40) <|
          Chk1 ⟨n19, 1, none⟩ (.slice s41p s41l s41c) <|
          Chk1 ⟨n14, 0, none⟩ (.int .u64 x38) <|
          Chk1 ⟨n14, 1, none⟩ (.slice s39p s39l s39c) <|
          Chk1 ⟨n14, 0, none⟩ (.int .u64 x33) <|
          Chk1 ⟨n14, 1, none⟩ (.slice s34p s34l s34c) <|
          Chk1 ⟨n19, 0, none⟩ (.int .u64 x31) <|
          Chk1 ⟨n19, 1, none⟩ (.slice s32p s32l s32c) <|
          BIf b89 (
           LoadT (.int .u64) ⟨n14, 0, none⟩ fun x90 =>
           LoadT .slice ⟨n14, 1, none⟩ fun s91p s91l s91c =>
           CallT Go.Proofs.Tryd.prog 18 [.agg #[.int .u64 x90, .slice s91p s91l s91c]] (.s (.one (.int .u64))) fun x92 =>
           Chk1 ⟨n19, 0, none⟩ (.int .u64 x85) <|
           Chk1 ⟨n19, 1, none⟩ (.slice s86p s86l s86c) <|
           Chk1 ⟨n14, 0, none⟩ (.int .u64 x83) <|
           Chk1 ⟨n14, 1, none⟩ (.slice s84p s84l s84c) <|
           Chk1 ⟨n14, 0, none⟩ (.int .u64 x78) <|
           Chk1 ⟨n14, 1, none⟩ (.slice s79p s79l s79c) <|
           Chk1 ⟨n14, 0, none⟩ (.int .u64 x74) <|
           Chk1 ⟨n14, 1, none⟩ (.slice s75p s75l s75c) <|
           Chk1 ⟨n19, 0, none⟩ (.int .u64 x72) <|
           Chk1 ⟨n19, 1, none⟩ (.slice s73p s73l s73c) <|
           Chk1 ⟨n14, 0, none⟩ (.int .u64 x70) <|
           Chk1 ⟨n14, 1, none⟩ (.slice s71p s71l s71c) <|
           Chk1 ⟨n14, 0, none⟩ (.int .u64 x42) <|
           Chk1 ⟨n14, 1, none⟩ (.slice s43p s43l s43c) <|
           Chk1 ⟨n19, 0, none⟩ (.int .u64 x40) <|
           Chk1 ⟨n19, 1, none⟩ (.slice s41p s41l s41c) <|
           Chk1 ⟨n14, 0, none⟩ (.int .u64 x38) <|
           Chk1 ⟨n14, 1, none⟩ (.slice s39p s39l s39c) <|
           Chk1 ⟨n14, 0, none⟩ (.int .u64 x33) <|
           Chk1 ⟨n14, 1, none⟩ (.slice s34p s34l s34c) <|
           Chk1 ⟨n19, 0, none⟩ (.int .u64 x31) <|
           Chk1 ⟨n19, 1, none⟩ (.slice s32p s32l s32c) <|
           k (.bool (decide (x92 > 0)))) (
           k (.bool false))) (
          k (.bool false))) (
         k (.bool false))) (
        k (.bool false)))) (
      k (.bool false))) (
     k (.bool false))) (
    k (.bool false))))
theorem F6_eq (k : Value → W) (x1 : Int) (s2p : Option Addr) (s2l : Nat) (s2c : Nat) (at_3 : Int) : compF Go.Proofs.Tryd.prog Go.Proofs.Tryd.f6 [] (Go.Proofs.Tryd.f6.body.getD .skip) [.agg #[.int .u64 x1, .slice s2p s2l s2c], .int .u16 at_3] k = F6 k x1 s2p s2l s2c at_3 := by kernel_rfl
theorem F6_calls {x1 : Int} {s2p : Option Addr} {s2l : Nat} {s2c : Nat} {at_3 : Int} {w : World} {R : Ending → World → Prop} (h : F6 (fun v w => R (.returned v) w) x1 s2p s2l s2c at_3 w) : Calls Go.Proofs.Tryd.prog 6 #[.agg #[.int .u64 x1, .slice s2p s2l s2c], .int .u16 at_3] w R :=
  calls_of_compF noNum follows [] (f := 6) (fn := Go.Proofs.Tryd.f6) (body := Go.Proofs.Tryd.f6.body.getD .skip) (args := [.agg #[.int .u64 x1, .slice s2p s2l s2c], .int .u16 at_3]) rfl rfl (Nat.le_of_ble_eq_true rfl) ((congrFun (F6_eq _ x1 s2p s2l s2c at_3) w).mpr h)
theorem F6_call {x1 : Int} {s2p : Option Addr} {s2l : Nat} {s2c : Nat} {at_3 : Int} {w : World} {g : Fn W (RTy.leaves (.s (.one .bool)))} (h : F6 (fun v => Back (.s (.one .bool)) g (.returned v)) x1 s2p s2l s2c at_3 w) : CallT Go.Proofs.Tryd.prog 6 [.agg #[.int .u64 x1, .slice s2p s2l s2c], .int .u16 at_3] (.s (.one .bool)) g w := F6_calls h

end Go.Proofs.YtopdlfecfgimpaaDoor.E
