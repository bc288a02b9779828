/-
  Printed by this session's own program eng.py out of Lean's print of the loaded functions: what each function's body asks, in the engine's words; each is checked against the program by the kernel.
-/
import Derived.Test.YtopdlfecfgimpaaDoorEng
import Derived.Test.YtopdlfecfgimpaaDoorFnsA
namespace Go.Proofs.YtopdlfecfgimpaaDoor.E
open Go
set_option linter.unusedVariables false
set_option maxRecDepth 100000
/-! ## bitset.wordsNeededUnbound -/
def F65 (k : Value → W) (i_1 : Int) : W :=
 Bind (shrI .i64 (addI .i64 (IntKind.wrap .i64 i_1) 63) 6 : Int) fun y2 =>
 k (.int .i64 y2)
theorem F65_eq (k : Value → W) (i_1 : Int) : compF Go.Proofs.Tryd.prog Go.Proofs.Tryd.f65 [] (Go.Proofs.Tryd.f65.body.getD .skip) [.int .u64 i_1] k = F65 k i_1 := by kernel_rfl
theorem F65_calls {i_1 : Int} {w : World} {R : Ending → World → Prop} (h : F65 (fun v w => R (.returned v) w) i_1 w) : Calls Go.Proofs.Tryd.prog 65 #[.int .u64 i_1] w R :=
  calls_of_compF noNum follows [] (f := 65) (fn := Go.Proofs.Tryd.f65) (body := Go.Proofs.Tryd.f65.body.getD .skip) (args := [.int .u64 i_1]) rfl rfl (Nat.le_of_ble_eq_true rfl) ((congrFun (F65_eq _ i_1) w).mpr h)
theorem F65_call {i_1 : Int} {w : World} {g : Fn W (RTy.leaves (.s (.one (.int .i64))))} (h : F65 (fun v => Back (.s (.one (.int .i64))) g (.returned v)) i_1 w) : CallT Go.Proofs.Tryd.prog 65 [.int .u64 i_1] (.s (.one (.int .i64))) g w := F65_calls h

/-! ## bitset.BitSet).wordCount -/
def F58 (k : Value → W) (b_1 : Option Addr) : W :=
 NN b_1 fun a2 =>
 LoadT (.int .u64) a2 fun x3 =>
 CallT Go.Proofs.Tryd.prog 65 [.int .u64 x3] (.s (.one (.int .i64))) fun x4 =>
 k (.int .i64 x4)
theorem F58_eq (k : Value → W) (b_1 : Option Addr) : compF Go.Proofs.Tryd.prog Go.Proofs.Tryd.f58 [] (Go.Proofs.Tryd.f58.body.getD .skip) [.pointer b_1] k = F58 k b_1 := by kernel_rfl
theorem F58_calls {b_1 : Option Addr} {w : World} {R : Ending → World → Prop} (h : F58 (fun v w => R (.returned v) w) b_1 w) : Calls Go.Proofs.Tryd.prog 58 #[.pointer b_1] w R :=
  calls_of_compF noNum follows [] (f := 58) (fn := Go.Proofs.Tryd.f58) (body := Go.Proofs.Tryd.f58.body.getD .skip) (args := [.pointer b_1]) rfl rfl (Nat.le_of_ble_eq_true rfl) ((congrFun (F58_eq _ b_1) w).mpr h)
theorem F58_call {b_1 : Option Addr} {w : World} {g : Fn W (RTy.leaves (.s (.one (.int .i64))))} (h : F58 (fun v => Back (.s (.one (.int .i64))) g (.returned v)) b_1 w) : CallT Go.Proofs.Tryd.prog 58 [.pointer b_1] (.s (.one (.int .i64))) g w := F58_calls h

/-! ## bitset.popcntSlice -/
def F54_L2 (k : Value → W) (again31 : Option Addr → Nat → Nat → Int → Int → Int → W) (s_27p : Option Addr) (s_27l : Nat) (s_27c : Nat) (cnt_28 : Int) (n_29 : Int) (i_30 : Int) : W :=
 BIf (decide (i_30 < n_29)) (
  NN s_27p fun a32 =>
  Req (0 ≤ i_30 ∧ i_30 < ((s_27l : Nat) : Int)) <|
  LoadT (.int .u64) (a32.add i_30.toNat) fun x33 =>
  CallT Go.Proofs.Tryd.prog 56 [.int .u64 x33] (.s (.one (.int .i64))) fun x34 =>
  Bind (addI .u64 cnt_28 (IntKind.wrap .u64 x34) : Int) fun cnt_35 =>
  again31 s_27p s_27l s_27c cnt_35 n_29 (addI .i64 i_30 1)) (
  k (.int .u64 cnt_28))
theorem F54_L2_rule {k : Value → W} (I : Option Addr → Nat → Nat → Int → Int → Int → W) (μ : Option Addr → Nat → Nat → Int → Int → Int → World → Nat)
  (hr : ∀ (s_27p : Option Addr) (s_27l : Nat) (s_27c : Nat) (cnt_28 : Int) (n_29 : Int) (i_30 : Int) (w : World), I s_27p s_27l s_27c cnt_28 n_29 i_30 w → F54_L2 k (fun s_27p' s_27l' s_27c' cnt_28' n_29' i_30' w' => I s_27p' s_27l' s_27c' cnt_28' n_29' i_30' w' ∧ μ s_27p' s_27l' s_27c' cnt_28' n_29' i_30' w' < μ s_27p s_27l s_27c cnt_28 n_29 i_30 w) s_27p s_27l s_27c cnt_28 n_29 i_30 w)
  {w : World} {s_27p : Option Addr} {s_27l : Nat} {s_27c : Nat} {cnt_28 : Int} {n_29 : Int} {i_30 : Int} (h : I s_27p s_27l s_27c cnt_28 n_29 i_30 w) : Loop [.slice, (.int .u64), (.int .i64), (.int .i64)] (F54_L2 k) s_27p s_27l s_27c cnt_28 n_29 i_30 w :=
  Loop_intro (ts := [.slice, (.int .u64), (.int .i64), (.int .i64)]) (s := ((s_27p, s_27l, s_27c), cnt_28, n_29, i_30, ())) (fun s w => I s.1.1 s.1.2.1 s.1.2.2 s.2.1 s.2.2.1 s.2.2.2.1 w) (fun s w => μ s.1.1 s.1.2.1 s.1.2.2 s.2.1 s.2.2.1 s.2.2.2.1 w) h (fun s w h => hr s.1.1 s.1.2.1 s.1.2.2 s.2.1 s.2.2.1 s.2.2.2.1 w h)
def F54_L1 (k : Value → W) (again9 : Option Addr → Nat → Nat → Int → Int → Int → Int → Int → Int → W) (s_2p : Option Addr) (s_2l : Nat) (s_2c : Nat) (c0_3 : Int) (c1_4 : Int) (c2_5 : Int) (c3_6 : Int) (n_7 : Int) (i_8 : Int) : W :=
 BIf (decide (i_8 ≤ (subI .i64 n_7 4))) (
  NN s_2p fun a10 =>
  Req (0 ≤ i_8 ∧ i_8 < ((s_2l : Nat) : Int)) <|
  LoadT (.int .u64) (a10.add i_8.toNat) fun x11 =>
  CallT Go.Proofs.Tryd.prog 56 [.int .u64 x11] (.s (.one (.int .i64))) fun x12 =>
  Bind (addI .u64 c0_3 (IntKind.wrap .u64 x12) : Int) fun c0_13 =>
  NN s_2p fun a14 =>
  Req (0 ≤ addI .i64 i_8 1 ∧ addI .i64 i_8 1 < ((s_2l : Nat) : Int)) <|
  LoadT (.int .u64) (a14.add ((addI .i64 i_8 1).toNat)) fun x15 =>
  CallT Go.Proofs.Tryd.prog 56 [.int .u64 x15] (.s (.one (.int .i64))) fun x16 =>
  Bind (addI .u64 c1_4 (IntKind.wrap .u64 x16) : Int) fun c1_17 =>
  NN s_2p fun a18 =>
  Req (0 ≤ addI .i64 i_8 2 ∧ addI .i64 i_8 2 < ((s_2l : Nat) : Int)) <|
  LoadT (.int .u64) (a18.add ((addI .i64 i_8 2).toNat)) fun x19 =>
  CallT Go.Proofs.Tryd.prog 56 [.int .u64 x19] (.s (.one (.int .i64))) fun x20 =>
  Bind (addI .u64 c2_5 (IntKind.wrap .u64 x20) : Int) fun c2_21 =>
  NN s_2p fun a22 =>
  Req (0 ≤ addI .i64 i_8 3 ∧ addI .i64 i_8 3 < ((s_2l : Nat) : Int)) <|
  LoadT (.int .u64) (a22.add ((addI .i64 i_8 3).toNat)) fun x23 =>
  CallT Go.Proofs.Tryd.prog 56 [.int .u64 x23] (.s (.one (.int .i64))) fun x24 =>
  Bind (addI .u64 c3_6 (IntKind.wrap .u64 x24) : Int) fun c3_25 =>
  again9 s_2p s_2l s_2c c0_13 c1_17 c2_21 c3_25 n_7 (addI .i64 i_8 4)) (
  Bind (addI .u64 (addI .u64 (addI .u64 c0_3 c1_4) c2_5) c3_6 : Int) fun cnt_26 =>
  Loop [.slice, (.int .u64), (.int .i64), (.int .i64)] (F54_L2 k) s_2p s_2l s_2c cnt_26 n_7 i_8)
theorem F54_L1_rule {k : Value → W} (I : Option Addr → Nat → Nat → Int → Int → Int → Int → Int → Int → W) (μ : Option Addr → Nat → Nat → Int → Int → Int → Int → Int → Int → World → Nat)
  (hr : ∀ (s_2p : Option Addr) (s_2l : Nat) (s_2c : Nat) (c0_3 : Int) (c1_4 : Int) (c2_5 : Int) (c3_6 : Int) (n_7 : Int) (i_8 : Int) (w : World), I s_2p s_2l s_2c c0_3 c1_4 c2_5 c3_6 n_7 i_8 w → F54_L1 k (fun s_2p' s_2l' s_2c' c0_3' c1_4' c2_5' c3_6' n_7' i_8' w' => I s_2p' s_2l' s_2c' c0_3' c1_4' c2_5' c3_6' n_7' i_8' w' ∧ μ s_2p' s_2l' s_2c' c0_3' c1_4' c2_5' c3_6' n_7' i_8' w' < μ s_2p s_2l s_2c c0_3 c1_4 c2_5 c3_6 n_7 i_8 w) s_2p s_2l s_2c c0_3 c1_4 c2_5 c3_6 n_7 i_8 w)
  {w : World} {s_2p : Option Addr} {s_2l : Nat} {s_2c : Nat} {c0_3 : Int} {c1_4 : Int} {c2_5 : Int} {c3_6 : Int} {n_7 : Int} {i_8 : Int} (h : I s_2p s_2l s_2c c0_3 c1_4 c2_5 c3_6 n_7 i_8 w) : Loop [.slice, (.int .u64), (.int .u64), (.int .u64), (.int .u64), (.int .i64), (.int .i64)] (F54_L1 k) s_2p s_2l s_2c c0_3 c1_4 c2_5 c3_6 n_7 i_8 w :=
  Loop_intro (ts := [.slice, (.int .u64), (.int .u64), (.int .u64), (.int .u64), (.int .i64), (.int .i64)]) (s := ((s_2p, s_2l, s_2c), c0_3, c1_4, c2_5, c3_6, n_7, i_8, ())) (fun s w => I s.1.1 s.1.2.1 s.1.2.2 s.2.1 s.2.2.1 s.2.2.2.1 s.2.2.2.2.1 s.2.2.2.2.2.1 s.2.2.2.2.2.2.1 w) (fun s w => μ s.1.1 s.1.2.1 s.1.2.2 s.2.1 s.2.2.1 s.2.2.2.1 s.2.2.2.2.1 s.2.2.2.2.2.1 s.2.2.2.2.2.2.1 w) h (fun s w h => hr s.1.1 s.1.2.1 s.1.2.2 s.2.1 s.2.2.1 s.2.2.2.1 s.2.2.2.2.1 s.2.2.2.2.2.1 s.2.2.2.2.2.2.1 w h)
def F54 (k : Value → W) (s_1p : Option Addr) (s_1l : Nat) (s_1c : Nat) : W :=
 Loop [.slice, (.int .u64), (.int .u64), (.int .u64), (.int .u64), (.int .i64), (.int .i64)] (F54_L1 k) s_1p s_1l s_1c 0 0 0 0 ((s_1l : Nat) : Int) 0
theorem F54_eq (k : Value → W) (s_1p : Option Addr) (s_1l : Nat) (s_1c : Nat) : compF Go.Proofs.Tryd.prog Go.Proofs.Tryd.f54 [(4, [(0, .slice), (3, (.int .u64)), (4, (.int .u64)), (5, (.int .u64)), (6, (.int .u64)), (7, (.int .i64)), (8, (.int .i64))]), (11, [(0, .slice), (2, (.int .u64)), (7, (.int .i64)), (8, (.int .i64))])] (Go.Proofs.Tryd.f54.body.getD .skip) [.slice s_1p s_1l s_1c] k = F54 k s_1p s_1l s_1c := by kernel_rfl
theorem F54_calls {s_1p : Option Addr} {s_1l : Nat} {s_1c : Nat} {w : World} {R : Ending → World → Prop} (h : F54 (fun v w => R (.returned v) w) s_1p s_1l s_1c w) : Calls Go.Proofs.Tryd.prog 54 #[.slice s_1p s_1l s_1c] w R :=
  calls_of_compF noNum follows [(4, [(0, .slice), (3, (.int .u64)), (4, (.int .u64)), (5, (.int .u64)), (6, (.int .u64)), (7, (.int .i64)), (8, (.int .i64))]), (11, [(0, .slice), (2, (.int .u64)), (7, (.int .i64)), (8, (.int .i64))])] (f := 54) (fn := Go.Proofs.Tryd.f54) (body := Go.Proofs.Tryd.f54.body.getD .skip) (args := [.slice s_1p s_1l s_1c]) rfl rfl (Nat.le_of_ble_eq_true rfl) ((congrFun (F54_eq _ s_1p s_1l s_1c) w).mpr h)
theorem F54_call {s_1p : Option Addr} {s_1l : Nat} {s_1c : Nat} {w : World} {g : Fn W (RTy.leaves (.s (.one (.int .u64))))} (h : F54 (fun v => Back (.s (.one (.int .u64))) g (.returned v)) s_1p s_1l s_1c w) : CallT Go.Proofs.Tryd.prog 54 [.slice s_1p s_1l s_1c] (.s (.one (.int .u64))) g w := F54_calls h

/-! ## bitset.BitSet).IsSuperSet -/
def F42_L1 (k : Value → W) (again17 : Option Addr → Option Addr → Int → Option Addr → Nat → Nat → Int → Int → W) (b_11 : Option Addr) (other_12 : Option Addr) (l_13 : Int) (s14p : Option Addr) (s14l : Nat) (s14c : Nat) (x15 : Int) (x16 : Int) : W :=
 BIf (decide (x16 < x15)) (
  NN s14p fun a18 =>
  Req (0 ≤ x16 ∧ x16 < ((s14l : Nat) : Int)) <|
  LoadT (.int .u64) (a18.add x16.toNat) fun x19 =>
  NN b_11 fun a20 =>
  LoadT .slice (a20.add 1) fun s21p s21l s21c =>
  NN s21p fun a22 =>
  Req (0 ≤ x16 ∧ x16 < ((s21l : Nat) : Int)) <|
  LoadT (.int .u64) (a22.add x16.toNat) fun x23 =>
  BIf ((andI .u64 x23 x19) != x19) (
   k (.bool false)) (
   again17 b_11 other_12 l_13 s14p s14l s14c x15 (addI .i64 x16 1))) (
  NN other_12 fun a24 =>
  LoadT .slice (a24.add 1) fun s25p s25l s25c =>
  Req (0 ≤ l_13 ∧ l_13 ≤ ((s25l : Nat) : Int)) <|
  CallT Go.Proofs.Tryd.prog 54 [.slice (sliceA s25p l_13.toNat s25c 1) (s25l - l_13.toNat) (s25c - l_13.toNat)] (.s (.one (.int .u64))) fun x26 =>
  k (.bool (x26 == 0)))
theorem F42_L1_rule {k : Value → W} (I : Option Addr → Option Addr → Int → Option Addr → Nat → Nat → Int → Int → W) (μ : Option Addr → Option Addr → Int → Option Addr → Nat → Nat → Int → Int → World → Nat)
  (hr : ∀ (b_11 : Option Addr) (other_12 : Option Addr) (l_13 : Int) (s14p : Option Addr) (s14l : Nat) (s14c : Nat) (x15 : Int) (x16 : Int) (w : World), I b_11 other_12 l_13 s14p s14l s14c x15 x16 w → F42_L1 k (fun b_11' other_12' l_13' s14p' s14l' s14c' x15' x16' w' => I b_11' other_12' l_13' s14p' s14l' s14c' x15' x16' w' ∧ μ b_11' other_12' l_13' s14p' s14l' s14c' x15' x16' w' < μ b_11 other_12 l_13 s14p s14l s14c x15 x16 w) b_11 other_12 l_13 s14p s14l s14c x15 x16 w)
  {w : World} {b_11 : Option Addr} {other_12 : Option Addr} {l_13 : Int} {s14p : Option Addr} {s14l : Nat} {s14c : Nat} {x15 : Int} {x16 : Int} (h : I b_11 other_12 l_13 s14p s14l s14c x15 x16 w) : Loop [.ptr, .ptr, (.int .i64), .slice, (.int .i64), (.int .i64)] (F42_L1 k) b_11 other_12 l_13 s14p s14l s14c x15 x16 w :=
  Loop_intro (ts := [.ptr, .ptr, (.int .i64), .slice, (.int .i64), (.int .i64)]) (s := (b_11, other_12, l_13, (s14p, s14l, s14c), x15, x16, ())) (fun s w => I s.1 s.2.1 s.2.2.1 s.2.2.2.1.1 s.2.2.2.1.2.1 s.2.2.2.1.2.2 s.2.2.2.2.1 s.2.2.2.2.2.1 w) (fun s w => μ s.1 s.2.1 s.2.2.1 s.2.2.2.1.1 s.2.2.2.1.2.1 s.2.2.2.1.2.2 s.2.2.2.2.1 s.2.2.2.2.2.1 w) h (fun s w h => hr s.1 s.2.1 s.2.2.1 s.2.2.2.1.1 s.2.2.2.1.2.1 s.2.2.2.1.2.2 s.2.2.2.2.1 s.2.2.2.2.2.1 w h)
def F42_J1 (k : Value → W) (b_6 : Option Addr) (other_7 : Option Addr) (l_8 : Int) : W :=
 NN other_7 fun a9 =>
 LoadT .slice (a9.add 1) fun s10p s10l s10c =>
 Req (0 ≤ l_8 ∧ l_8 ≤ ((s10c : Nat) : Int)) <|
 Loop [.ptr, .ptr, (.int .i64), .slice, (.int .i64), (.int .i64)] (F42_L1 k) b_6 other_7 l_8 (sliceA s10p 0 s10c 1) (l_8.toNat - 0) (s10c - 0) ((l_8.toNat - 0 : Nat) : Int) 0
def F42 (k : Value → W) (b_1 : Option Addr) (other_2 : Option Addr) : W :=
 CallT Go.Proofs.Tryd.prog 58 [.pointer other_2] (.s (.one (.int .i64))) fun x3 =>
 CallT Go.Proofs.Tryd.prog 58 [.pointer b_1] (.s (.one (.int .i64))) fun x4 =>
 BIf (decide (x4 < x3)) (
  CallT Go.Proofs.Tryd.prog 58 [.pointer b_1] (.s (.one (.int .i64))) fun x5 =>
  F42_J1 k b_1 other_2 x5) (
  F42_J1 k b_1 other_2 x3)
theorem F42_eq (k : Value → W) (b_1 : Option Addr) (other_2 : Option Addr) : compF Go.Proofs.Tryd.prog Go.Proofs.Tryd.f42 [(5, [(0, .ptr), (1, .ptr), (5, (.int .i64)), (21, .slice), (22, (.int .i64)), (23, (.int .i64))])] (Go.Proofs.Tryd.f42.body.getD .skip) [.pointer b_1, .pointer other_2] k = F42 k b_1 other_2 := by kernel_rfl
theorem F42_calls {b_1 : Option Addr} {other_2 : Option Addr} {w : World} {R : Ending → World → Prop} (h : F42 (fun v w => R (.returned v) w) b_1 other_2 w) : Calls Go.Proofs.Tryd.prog 42 #[.pointer b_1, .pointer other_2] w R :=
  calls_of_compF noNum follows [(5, [(0, .ptr), (1, .ptr), (5, (.int .i64)), (21, .slice), (22, (.int .i64)), (23, (.int .i64))])] (f := 42) (fn := Go.Proofs.Tryd.f42) (body := Go.Proofs.Tryd.f42.body.getD .skip) (args := [.pointer b_1, .pointer other_2]) rfl rfl (Nat.le_of_ble_eq_true rfl) ((congrFun (F42_eq _ b_1 other_2) w).mpr h)
theorem F42_call {b_1 : Option Addr} {other_2 : Option Addr} {w : World} {g : Fn W (RTy.leaves (.s (.one .bool)))} (h : F42 (fun v => Back (.s (.one .bool)) g (.returned v)) b_1 other_2 w) : CallT Go.Proofs.Tryd.prog 42 [.pointer b_1, .pointer other_2] (.s (.one .bool)) g w := F42_calls h

/-! ## impl.BSIsSuperSet -/
def F20 (k : Value → W) (x1 : Int) (s2p : Option Addr) (s2l : Nat) (s2c : Nat) (x3 : Int) (s4p : Option Addr) (s4l : Nat) (s4c : Nat) : W :=
 New [.int .u64 x1, .slice s2p s2l s2c] 25 fun n5 =>
 New [.int .u64 x3, .slice s4p s4l s4c] 25 fun n6 =>
 Drw <|
 LoadT (.int .u64) ⟨n5, 0, none⟩ fun x7 =>
 LoadT .slice ⟨n5, 1, none⟩ fun s8p s8l s8c =>
 LoadT (.int .u64) ⟨n6, 0, none⟩ fun x9 =>
 LoadT .slice ⟨n6, 1, none⟩ fun s10p s10l s10c =>
 CallT Go.Proofs.Tryd.prog 29 [.agg #[.int .u64 x7, .slice s8p s8l s8c]] (.s (.one .ptr)) fun p11 =>
 Chk1 ⟨n6, 0, none⟩ (.int .u64 x9) <|
 Chk1 ⟨n6, 1, none⟩ (.slice s10p s10l s10c) <|
 CallT Go.Proofs.Tryd.prog 29 [.agg #[.int .u64 x9, .slice s10p s10l s10c]] (.s (.one .ptr)) fun p12 =>
 Chk1 ⟨n5, 0, none⟩ (.int .u64 x7) <|
 Chk1 ⟨n5, 1, none⟩ (.slice s8p s8l s8c) <|
 CallT Go.Proofs.Tryd.prog 42 [.pointer p11, .pointer p12] (.s (.one .bool)) fun b13 =>
 Chk1 ⟨n6, 0, none⟩ (.int .u64 x9) <|
 Chk1 ⟨n6, 1, none⟩ (.slice s10p s10l s10c) <|
 Chk1 ⟨n5, 0, none⟩ (.int .u64 x7) <|
 Chk1 ⟨n5, 1, none⟩ (.slice s8p s8l s8c) <|
 k (.bool b13)
theorem F20_eq (k : Value → W) (x1 : Int) (s2p : Option Addr) (s2l : Nat) (s2c : Nat) (x3 : Int) (s4p : Option Addr) (s4l : Nat) (s4c : Nat) : compF Go.Proofs.Tryd.prog Go.Proofs.Tryd.f20 [] (Go.Proofs.Tryd.f20.body.getD .skip) [.agg #[.int .u64 x1, .slice s2p s2l s2c], .agg #[.int .u64 x3, .slice s4p s4l s4c]] k = F20 k x1 s2p s2l s2c x3 s4p s4l s4c := by kernel_rfl
theorem F20_calls {x1 : Int} {s2p : Option Addr} {s2l : Nat} {s2c : Nat} {x3 : Int} {s4p : Option Addr} {s4l : Nat} {s4c : Nat} {w : World} {R : Ending → World → Prop} (h : F20 (fun v w => R (.returned v) w) x1 s2p s2l s2c x3 s4p s4l s4c w) : Calls Go.Proofs.Tryd.prog 20 #[.agg #[.int .u64 x1, .slice s2p s2l s2c], .agg #[.int .u64 x3, .slice s4p s4l s4c]] w R :=
  calls_of_compF noNum follows [] (f := 20) (fn := Go.Proofs.Tryd.f20) (body := Go.Proofs.Tryd.f20.body.getD .skip) (args := [.agg #[.int .u64 x1, .slice s2p s2l s2c], .agg #[.int .u64 x3, .slice s4p s4l s4c]]) rfl rfl (Nat.le_of_ble_eq_true rfl) ((congrFun (F20_eq _ x1 s2p s2l s2c x3 s4p s4l s4c) w).mpr h)
theorem F20_call {x1 : Int} {s2p : Option Addr} {s2l : Nat} {s2c : Nat} {x3 : Int} {s4p : Option Addr} {s4l : Nat} {s4c : Nat} {w : World} {g : Fn W (RTy.leaves (.s (.one .bool)))} (h : F20 (fun v => Back (.s (.one .bool)) g (.returned v)) x1 s2p s2l s2c x3 s4p s4l s4c w) : CallT Go.Proofs.Tryd.prog 20 [.agg #[.int .u64 x1, .slice s2p s2l s2c], .agg #[.int .u64 x3, .slice s4p s4l s4c]] (.s (.one .bool)) g w := F20_calls h

/-! ## bitset.BitSet).Count -/
def F35_J1 (k : Value → W) (b_4 : Option Addr) (b5 : Bool) : W :=
 BIf b5 (
  NN b_4 fun a6 =>
  LoadT .slice (a6.add 1) fun s7p s7l s7c =>
  CallT Go.Proofs.Tryd.prog 54 [.slice s7p s7l s7c] (.s (.one (.int .u64))) fun x8 =>
  k (.int .u64 x8)) (
  k (.int .u64 0))
def F35 (k : Value → W) (b_1 : Option Addr) : W :=
 BIf (!b_1.isNone) (
  NN b_1 fun a2 =>
  LoadT .slice (a2.add 1) fun s3p s3l s3c =>
  F35_J1 k b_1 (!s3p.isNone)) (
  F35_J1 k b_1 false)
theorem F35_eq (k : Value → W) (b_1 : Option Addr) : compF Go.Proofs.Tryd.prog Go.Proofs.Tryd.f35 [] (Go.Proofs.Tryd.f35.body.getD .skip) [.pointer b_1] k = F35 k b_1 := by kernel_rfl
theorem F35_calls {b_1 : Option Addr} {w : World} {R : Ending → World → Prop} (h : F35 (fun v w => R (.returned v) w) b_1 w) : Calls Go.Proofs.Tryd.prog 35 #[.pointer b_1] w R :=
  calls_of_compF noNum follows [] (f := 35) (fn := Go.Proofs.Tryd.f35) (body := Go.Proofs.Tryd.f35.body.getD .skip) (args := [.pointer b_1]) rfl rfl (Nat.le_of_ble_eq_true rfl) ((congrFun (F35_eq _ b_1) w).mpr h)
theorem F35_call {b_1 : Option Addr} {w : World} {g : Fn W (RTy.leaves (.s (.one (.int .u64))))} (h : F35 (fun v => Back (.s (.one (.int .u64))) g (.returned v)) b_1 w) : CallT Go.Proofs.Tryd.prog 35 [.pointer b_1] (.s (.one (.int .u64))) g w := F35_calls h

end Go.Proofs.YtopdlfecfgimpaaDoor.E
