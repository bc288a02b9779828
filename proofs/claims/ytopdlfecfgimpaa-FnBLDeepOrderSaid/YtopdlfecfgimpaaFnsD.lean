/-
  Printed by this session's own program eng.py out of Lean's print of the loaded functions: what each function's body asks, in the engine's words; each is checked against the program by the kernel.
-/
import Derived.Test.YtopdlfecfgimpaaEng
import Derived.Test.YtopdlfecfgimpaaFnsA
namespace Go.Proofs.Ytopdlfecfgimpaa.E
open Go
set_option linter.unusedVariables false
set_option maxRecDepth 100000
/-! ## bitset.BitSet).Clone -/
def F94 (k : Value → W) (b_1 : Option Addr) : W :=
 NN b_1 fun a2 =>
 LoadT (.int .u64) a2 fun x3 =>
 CallT Go.Proofs.Try.prog 59 [.int .u64 x3] (.s (.one .ptr)) fun p4 =>
 NN b_1 fun a5 =>
 LoadT .slice (a5.add 1) fun s6p s6l s6c =>
 BIf (!s6p.isNone) (
  Drw <|
  NN p4 fun a7 =>
  LoadT .slice (a7.add 1) fun s8p s8l s8c =>
  NN b_1 fun a9 =>
  LoadT .slice (a9.add 1) fun s10p s10l s10c =>
  NextT Go.Proofs.Try.prog (builtin .copy #[43, 43] 3 [false, false].toArray [.slice s8p s8l s8c, .slice s10p s10l s10c].toArray) (.s (.one (.int .i64))) fun x11 =>
  k (.pointer p4)) (
  k (.pointer p4))
theorem F94_eq (k : Value → W) (b_1 : Option Addr) : compF Go.Proofs.Try.prog Go.Proofs.Try.f94 [] (Go.Proofs.Try.f94.body.getD .skip) [.pointer b_1] k = F94 k b_1 := by kernel_rfl
theorem F94_calls {b_1 : Option Addr} {w : World} {R : Ending → World → Prop} (h : F94 (fun v w => R (.returned v) w) b_1 w) : Calls Go.Proofs.Try.prog 94 #[.pointer b_1] w R :=
  calls_of_compF noNum follows [] (f := 94) (fn := Go.Proofs.Try.f94) (body := Go.Proofs.Try.f94.body.getD .skip) (args := [.pointer b_1]) rfl rfl (Nat.le_of_ble_eq_true rfl) ((congrFun (F94_eq _ b_1) w).mpr h)
theorem F94_call {b_1 : Option Addr} {w : World} {g : Fn W (RTy.leaves (.s (.one .ptr)))} (h : F94 (fun v => Back (.s (.one .ptr)) g (.returned v)) b_1 w) : CallT Go.Proofs.Try.prog 94 [.pointer b_1] (.s (.one .ptr)) g w := F94_calls h

/-! ## bitset.BitSet).Union -/
def F62_L1 (k : Value → W) (again13 : Option Addr → Option Addr → Option Addr → Nat → Nat → Int → Int → W) (compare_8 : Option Addr) (result_9 : Option Addr) (s10p : Option Addr) (s10l : Nat) (s10c : Nat) (x11 : Int) (x12 : Int) : W :=
 BIf (decide (x12 < x11)) (
  NN s10p fun a14 =>
  Req (0 ≤ x12 ∧ x12 < (s10l : Int)) <|
  LoadT (.int .u64) (a14.add x12.toNat) fun x15 =>
  Drw <|
  NN result_9 fun a16 =>
  LoadT .slice (a16.add 1) fun s17p s17l s17c =>
  NN compare_8 fun a18 =>
  LoadT .slice (a18.add 1) fun s19p s19l s19c =>
  NN s19p fun a20 =>
  Req (0 ≤ x12 ∧ x12 < (s19l : Int)) <|
  LoadT (.int .u64) (a20.add x12.toNat) fun x21 =>
  NN s17p fun a22 =>
  Req (0 ≤ x12 ∧ x12 < (s17l : Int)) <|
  Store1 (a22.add x12.toNat) (.int .u64 (orI .u64 x15 x21)) <|
  again13 compare_8 result_9 s10p s10l s10c x11 (addI .i64 x12 1)) (
  k (.pointer result_9))
theorem F62_L1_rule {k : Value → W} (I : Option Addr → Option Addr → Option Addr → Nat → Nat → Int → Int → W) (μ : Option Addr → Option Addr → Option Addr → Nat → Nat → Int → Int → World → Nat)
  (hr : ∀ (compare_8 : Option Addr) (result_9 : Option Addr) (s10p : Option Addr) (s10l : Nat) (s10c : Nat) (x11 : Int) (x12 : Int) (w : World), I compare_8 result_9 s10p s10l s10c x11 x12 w → F62_L1 k (fun compare_8' result_9' s10p' s10l' s10c' x11' x12' w' => I compare_8' result_9' s10p' s10l' s10c' x11' x12' w' ∧ μ compare_8' result_9' s10p' s10l' s10c' x11' x12' w' < μ compare_8 result_9 s10p s10l s10c x11 x12 w) compare_8 result_9 s10p s10l s10c x11 x12 w)
  {w : World} {compare_8 : Option Addr} {result_9 : Option Addr} {s10p : Option Addr} {s10l : Nat} {s10c : Nat} {x11 : Int} {x12 : Int} (h : I compare_8 result_9 s10p s10l s10c x11 x12 w) : Loop [.ptr, .ptr, .slice, (.int .i64), (.int .i64)] (F62_L1 k) compare_8 result_9 s10p s10l s10c x11 x12 w :=
  Loop_intro (ts := [.ptr, .ptr, .slice, (.int .i64), (.int .i64)]) (s := (compare_8, result_9, (s10p, s10l, s10c), x11, x12, ())) (fun s w => I s.1 s.2.1 s.2.2.1.1 s.2.2.1.2.1 s.2.2.1.2.2 s.2.2.2.1 s.2.2.2.2.1 w) (fun s w => μ s.1 s.2.1 s.2.2.1.1 s.2.2.1.2.1 s.2.2.1.2.2 s.2.2.2.1 s.2.2.2.2.1 w) h (fun s w h => hr s.1 s.2.1 s.2.2.1.1 s.2.2.1.2.1 s.2.2.1.2.2 s.2.2.2.1 s.2.2.2.2.1 w h)
def F62 (k : Value → W) (b_1 : Option Addr) (compare_2 : Option Addr) : W :=
 CallT Go.Proofs.Try.prog 89 [.pointer b_1] (.tup []) <|
 CallT Go.Proofs.Try.prog 89 [.pointer compare_2] (.tup []) <|
 CallT Go.Proofs.Try.prog 90 [.pointer b_1, .pointer compare_2] (.tup [(.one .ptr), (.one .ptr)]) fun p3 p4 =>
 CallT Go.Proofs.Try.prog 94 [.pointer p4] (.s (.one .ptr)) fun p5 =>
 NN p3 fun a6 =>
 LoadT .slice (a6.add 1) fun s7p s7l s7c =>
 Loop [.ptr, .ptr, .slice, (.int .i64), (.int .i64)] (F62_L1 k) p4 p5 s7p s7l s7c ((s7l : Nat) : Int) 0
theorem F62_eq (k : Value → W) (b_1 : Option Addr) (compare_2 : Option Addr) : compF Go.Proofs.Try.prog Go.Proofs.Try.f62 [(6, [(1, .ptr), (4, .ptr), (22, .slice), (23, (.int .i64)), (24, (.int .i64))])] (Go.Proofs.Try.f62.body.getD .skip) [.pointer b_1, .pointer compare_2] k = F62 k b_1 compare_2 := by kernel_rfl
theorem F62_calls {b_1 : Option Addr} {compare_2 : Option Addr} {w : World} {R : Ending → World → Prop} (h : F62 (fun v w => R (.returned v) w) b_1 compare_2 w) : Calls Go.Proofs.Try.prog 62 #[.pointer b_1, .pointer compare_2] w R :=
  calls_of_compF noNum follows [(6, [(1, .ptr), (4, .ptr), (22, .slice), (23, (.int .i64)), (24, (.int .i64))])] (f := 62) (fn := Go.Proofs.Try.f62) (body := Go.Proofs.Try.f62.body.getD .skip) (args := [.pointer b_1, .pointer compare_2]) rfl rfl (Nat.le_of_ble_eq_true rfl) ((congrFun (F62_eq _ b_1 compare_2) w).mpr h)
theorem F62_call {b_1 : Option Addr} {compare_2 : Option Addr} {w : World} {g : Fn W (RTy.leaves (.s (.one .ptr)))} (h : F62 (fun v => Back (.s (.one .ptr)) g (.returned v)) b_1 compare_2 w) : CallT Go.Proofs.Try.prog 62 [.pointer b_1, .pointer compare_2] (.s (.one .ptr)) g w := F62_calls h

/-! ## impl.BSUnion -/
def F25 (k : Value → W) (x1 : Int) (s2p : Option Addr) (s2l : Nat) (s2c : Nat) (x3 : Int) (s4p : Option Addr) (s4l : Nat) (s4c : Nat) : W :=
 New [.int .u64 x1, .slice s2p s2l s2c] 25 fun n5 =>
 New [.int .u64 x3, .slice s4p s4l s4c] 25 fun n6 =>
 New [.int .u64 0, .slice none 0 0] 25 fun n7 =>
 Drw <|
 LoadT (.int .u64) ⟨n5, 0, none⟩ fun x8 =>
 LoadT .slice ⟨n5, 1, none⟩ fun s9p s9l s9c =>
 LoadT (.int .u64) ⟨n6, 0, none⟩ fun x10 =>
 LoadT .slice ⟨n6, 1, none⟩ fun s11p s11l s11c =>
 CallT Go.Proofs.Try.prog 49 [.agg #[.int .u64 x8, .slice s9p s9l s9c]] (.s (.one .ptr)) fun p12 =>
 Chk1 ⟨n6, 0, none⟩ (.int .u64 x10) <|
 Chk1 ⟨n6, 1, none⟩ (.slice s11p s11l s11c) <|
 CallT Go.Proofs.Try.prog 49 [.agg #[.int .u64 x10, .slice s11p s11l s11c]] (.s (.one .ptr)) fun p13 =>
 Chk1 ⟨n5, 0, none⟩ (.int .u64 x8) <|
 Chk1 ⟨n5, 1, none⟩ (.slice s9p s9l s9c) <|
 CallT Go.Proofs.Try.prog 62 [.pointer p12, .pointer p13] (.s (.one .ptr)) fun p14 =>
 Chk1 ⟨n6, 0, none⟩ (.int .u64 x10) <|
 Chk1 ⟨n6, 1, none⟩ (.slice s11p s11l s11c) <|
 Chk1 ⟨n5, 0, none⟩ (.int .u64 x8) <|
 Chk1 ⟨n5, 1, none⟩ (.slice s9p s9l s9c) <|
 CallT Go.Proofs.Try.prog 51 [.pointer p14] (.s (.agg [(.int .u64), .slice])) fun x15 s16p s16l s16c =>
 Chk1 ⟨n6, 0, none⟩ (.int .u64 x10) <|
 Chk1 ⟨n6, 1, none⟩ (.slice s11p s11l s11c) <|
 Chk1 ⟨n5, 0, none⟩ (.int .u64 x8) <|
 Chk1 ⟨n5, 1, none⟩ (.slice s9p s9l s9c) <|
 Store1 ⟨n7, 0, none⟩ (.int .u64 x15) <|
 Store1 ⟨n7, 1, none⟩ (.slice s16p s16l s16c) <|
 LoadT (.int .u64) ⟨n7, 0, none⟩ fun x17 =>
 LoadT .slice ⟨n7, 1, none⟩ fun s18p s18l s18c =>
 k (.agg #[.int .u64 x17, .slice s18p s18l s18c])
theorem F25_eq (k : Value → W) (x1 : Int) (s2p : Option Addr) (s2l : Nat) (s2c : Nat) (x3 : Int) (s4p : Option Addr) (s4l : Nat) (s4c : Nat) : compF Go.Proofs.Try.prog Go.Proofs.Try.f25 [] (Go.Proofs.Try.f25.body.getD .skip) [.agg #[.int .u64 x1, .slice s2p s2l s2c], .agg #[.int .u64 x3, .slice s4p s4l s4c]] k = F25 k x1 s2p s2l s2c x3 s4p s4l s4c := by kernel_rfl
theorem F25_calls {x1 : Int} {s2p : Option Addr} {s2l : Nat} {s2c : Nat} {x3 : Int} {s4p : Option Addr} {s4l : Nat} {s4c : Nat} {w : World} {R : Ending → World → Prop} (h : F25 (fun v w => R (.returned v) w) x1 s2p s2l s2c x3 s4p s4l s4c w) : Calls Go.Proofs.Try.prog 25 #[.agg #[.int .u64 x1, .slice s2p s2l s2c], .agg #[.int .u64 x3, .slice s4p s4l s4c]] w R :=
  calls_of_compF noNum follows [] (f := 25) (fn := Go.Proofs.Try.f25) (body := Go.Proofs.Try.f25.body.getD .skip) (args := [.agg #[.int .u64 x1, .slice s2p s2l s2c], .agg #[.int .u64 x3, .slice s4p s4l s4c]]) rfl rfl (Nat.le_of_ble_eq_true rfl) ((congrFun (F25_eq _ x1 s2p s2l s2c x3 s4p s4l s4c) w).mpr h)
theorem F25_call {x1 : Int} {s2p : Option Addr} {s2l : Nat} {s2c : Nat} {x3 : Int} {s4p : Option Addr} {s4l : Nat} {s4c : Nat} {w : World} {g : Fn W (RTy.leaves (.s (.agg [(.int .u64), .slice])))} (h : F25 (fun v => Back (.s (.agg [(.int .u64), .slice])) g (.returned v)) x1 s2p s2l s2c x3 s4p s4l s4c w) : CallT Go.Proofs.Try.prog 25 [.agg #[.int .u64 x1, .slice s2p s2l s2c], .agg #[.int .u64 x3, .slice s4p s4l s4c]] (.s (.agg [(.int .u64), .slice])) g w := F25_calls h

/-! ## bitset.wordsNeededUnbound -/
def F115 (k : Value → W) (i_1 : Int) : W :=
 Bind (shrI .i64 (addI .i64 (IntKind.wrap .i64 i_1) 63) 6 : Int) fun y2 =>
 k (.int .i64 y2)
theorem F115_eq (k : Value → W) (i_1 : Int) : compF Go.Proofs.Try.prog Go.Proofs.Try.f115 [] (Go.Proofs.Try.f115.body.getD .skip) [.int .u64 i_1] k = F115 k i_1 := by kernel_rfl
theorem F115_calls {i_1 : Int} {w : World} {R : Ending → World → Prop} (h : F115 (fun v w => R (.returned v) w) i_1 w) : Calls Go.Proofs.Try.prog 115 #[.int .u64 i_1] w R :=
  calls_of_compF noNum follows [] (f := 115) (fn := Go.Proofs.Try.f115) (body := Go.Proofs.Try.f115.body.getD .skip) (args := [.int .u64 i_1]) rfl rfl (Nat.le_of_ble_eq_true rfl) ((congrFun (F115_eq _ i_1) w).mpr h)
theorem F115_call {i_1 : Int} {w : World} {g : Fn W (RTy.leaves (.s (.one (.int .i64))))} (h : F115 (fun v => Back (.s (.one (.int .i64))) g (.returned v)) i_1 w) : CallT Go.Proofs.Try.prog 115 [.int .u64 i_1] (.s (.one (.int .i64))) g w := F115_calls h

/-! ## bitset.BitSet).wordCount -/
def F95 (k : Value → W) (b_1 : Option Addr) : W :=
 NN b_1 fun a2 =>
 LoadT (.int .u64) a2 fun x3 =>
 CallT Go.Proofs.Try.prog 115 [.int .u64 x3] (.s (.one (.int .i64))) fun x4 =>
 k (.int .i64 x4)
theorem F95_eq (k : Value → W) (b_1 : Option Addr) : compF Go.Proofs.Try.prog Go.Proofs.Try.f95 [] (Go.Proofs.Try.f95.body.getD .skip) [.pointer b_1] k = F95 k b_1 := by kernel_rfl
theorem F95_calls {b_1 : Option Addr} {w : World} {R : Ending → World → Prop} (h : F95 (fun v w => R (.returned v) w) b_1 w) : Calls Go.Proofs.Try.prog 95 #[.pointer b_1] w R :=
  calls_of_compF noNum follows [] (f := 95) (fn := Go.Proofs.Try.f95) (body := Go.Proofs.Try.f95.body.getD .skip) (args := [.pointer b_1]) rfl rfl (Nat.le_of_ble_eq_true rfl) ((congrFun (F95_eq _ b_1) w).mpr h)
theorem F95_call {b_1 : Option Addr} {w : World} {g : Fn W (RTy.leaves (.s (.one (.int .i64))))} (h : F95 (fun v => Back (.s (.one (.int .i64))) g (.returned v)) b_1 w) : CallT Go.Proofs.Try.prog 95 [.pointer b_1] (.s (.one (.int .i64))) g w := F95_calls h

/-! ## bitset.popcntSlice -/
def F96_L2 (k : Value → W) (again31 : Option Addr → Nat → Nat → Int → Int → Int → W) (s_27p : Option Addr) (s_27l : Nat) (s_27c : Nat) (cnt_28 : Int) (n_29 : Int) (i_30 : Int) : W :=
 BIf (decide (i_30 < n_29)) (
  NN s_27p fun a32 =>
  Req (0 ≤ i_30 ∧ i_30 < (s_27l : Int)) <|
  LoadT (.int .u64) (a32.add i_30.toNat) fun x33 =>
  CallT Go.Proofs.Try.prog 93 [.int .u64 x33] (.s (.one (.int .i64))) fun x34 =>
  Bind (addI .u64 cnt_28 (IntKind.wrap .u64 x34) : Int) fun cnt_35 =>
  again31 s_27p s_27l s_27c cnt_35 n_29 (addI .i64 i_30 1)) (
  k (.int .u64 cnt_28))
theorem F96_L2_rule {k : Value → W} (I : Option Addr → Nat → Nat → Int → Int → Int → W) (μ : Option Addr → Nat → Nat → Int → Int → Int → World → Nat)
  (hr : ∀ (s_27p : Option Addr) (s_27l : Nat) (s_27c : Nat) (cnt_28 : Int) (n_29 : Int) (i_30 : Int) (w : World), I s_27p s_27l s_27c cnt_28 n_29 i_30 w → F96_L2 k (fun s_27p' s_27l' s_27c' cnt_28' n_29' i_30' w' => I s_27p' s_27l' s_27c' cnt_28' n_29' i_30' w' ∧ μ s_27p' s_27l' s_27c' cnt_28' n_29' i_30' w' < μ s_27p s_27l s_27c cnt_28 n_29 i_30 w) s_27p s_27l s_27c cnt_28 n_29 i_30 w)
  {w : World} {s_27p : Option Addr} {s_27l : Nat} {s_27c : Nat} {cnt_28 : Int} {n_29 : Int} {i_30 : Int} (h : I s_27p s_27l s_27c cnt_28 n_29 i_30 w) : Loop [.slice, (.int .u64), (.int .i64), (.int .i64)] (F96_L2 k) s_27p s_27l s_27c cnt_28 n_29 i_30 w :=
  Loop_intro (ts := [.slice, (.int .u64), (.int .i64), (.int .i64)]) (s := ((s_27p, s_27l, s_27c), cnt_28, n_29, i_30, ())) (fun s w => I s.1.1 s.1.2.1 s.1.2.2 s.2.1 s.2.2.1 s.2.2.2.1 w) (fun s w => μ s.1.1 s.1.2.1 s.1.2.2 s.2.1 s.2.2.1 s.2.2.2.1 w) h (fun s w h => hr s.1.1 s.1.2.1 s.1.2.2 s.2.1 s.2.2.1 s.2.2.2.1 w h)
def F96_L1 (k : Value → W) (again9 : Option Addr → Nat → Nat → Int → Int → Int → Int → Int → Int → W) (s_2p : Option Addr) (s_2l : Nat) (s_2c : Nat) (c0_3 : Int) (c1_4 : Int) (c2_5 : Int) (c3_6 : Int) (n_7 : Int) (i_8 : Int) : W :=
 BIf (decide (i_8 ≤ (subI .i64 n_7 4))) (
  NN s_2p fun a10 =>
  Req (0 ≤ i_8 ∧ i_8 < (s_2l : Int)) <|
  LoadT (.int .u64) (a10.add i_8.toNat) fun x11 =>
  CallT Go.Proofs.Try.prog 93 [.int .u64 x11] (.s (.one (.int .i64))) fun x12 =>
  Bind (addI .u64 c0_3 (IntKind.wrap .u64 x12) : Int) fun c0_13 =>
  NN s_2p fun a14 =>
  Req (0 ≤ addI .i64 i_8 1 ∧ addI .i64 i_8 1 < (s_2l : Int)) <|
  LoadT (.int .u64) (a14.add ((addI .i64 i_8 1).toNat)) fun x15 =>
  CallT Go.Proofs.Try.prog 93 [.int .u64 x15] (.s (.one (.int .i64))) fun x16 =>
  Bind (addI .u64 c1_4 (IntKind.wrap .u64 x16) : Int) fun c1_17 =>
  NN s_2p fun a18 =>
  Req (0 ≤ addI .i64 i_8 2 ∧ addI .i64 i_8 2 < (s_2l : Int)) <|
  LoadT (.int .u64) (a18.add ((addI .i64 i_8 2).toNat)) fun x19 =>
  CallT Go.Proofs.Try.prog 93 [.int .u64 x19] (.s (.one (.int .i64))) fun x20 =>
  Bind (addI .u64 c2_5 (IntKind.wrap .u64 x20) : Int) fun c2_21 =>
  NN s_2p fun a22 =>
  Req (0 ≤ addI .i64 i_8 3 ∧ addI .i64 i_8 3 < (s_2l : Int)) <|
  LoadT (.int .u64) (a22.add ((addI .i64 i_8 3).toNat)) fun x23 =>
  CallT Go.Proofs.Try.prog 93 [.int .u64 x23] (.s (.one (.int .i64))) fun x24 =>
  Bind (addI .u64 c3_6 (IntKind.wrap .u64 x24) : Int) fun c3_25 =>
  again9 s_2p s_2l s_2c c0_13 c1_17 c2_21 c3_25 n_7 (addI .i64 i_8 4)) (
  Bind (addI .u64 (addI .u64 (addI .u64 c0_3 c1_4) c2_5) c3_6 : Int) fun cnt_26 =>
  Loop [.slice, (.int .u64), (.int .i64), (.int .i64)] (F96_L2 k) s_2p s_2l s_2c cnt_26 n_7 i_8)
theorem F96_L1_rule {k : Value → W} (I : Option Addr → Nat → Nat → Int → Int → Int → Int → Int → Int → W) (μ : Option Addr → Nat → Nat → Int → Int → Int → Int → Int → Int → World → Nat)
  (hr : ∀ (s_2p : Option Addr) (s_2l : Nat) (s_2c : Nat) (c0_3 : Int) (c1_4 : Int) (c2_5 : Int) (c3_6 : Int) (n_7 : Int) (i_8 : Int) (w : World), I s_2p s_2l s_2c c0_3 c1_4 c2_5 c3_6 n_7 i_8 w → F96_L1 k (fun s_2p' s_2l' s_2c' c0_3' c1_4' c2_5' c3_6' n_7' i_8' w' => I s_2p' s_2l' s_2c' c0_3' c1_4' c2_5' c3_6' n_7' i_8' w' ∧ μ s_2p' s_2l' s_2c' c0_3' c1_4' c2_5' c3_6' n_7' i_8' w' < μ s_2p s_2l s_2c c0_3 c1_4 c2_5 c3_6 n_7 i_8 w) s_2p s_2l s_2c c0_3 c1_4 c2_5 c3_6 n_7 i_8 w)
  {w : World} {s_2p : Option Addr} {s_2l : Nat} {s_2c : Nat} {c0_3 : Int} {c1_4 : Int} {c2_5 : Int} {c3_6 : Int} {n_7 : Int} {i_8 : Int} (h : I s_2p s_2l s_2c c0_3 c1_4 c2_5 c3_6 n_7 i_8 w) : Loop [.slice, (.int .u64), (.int .u64), (.int .u64), (.int .u64), (.int .i64), (.int .i64)] (F96_L1 k) s_2p s_2l s_2c c0_3 c1_4 c2_5 c3_6 n_7 i_8 w :=
  Loop_intro (ts := [.slice, (.int .u64), (.int .u64), (.int .u64), (.int .u64), (.int .i64), (.int .i64)]) (s := ((s_2p, s_2l, s_2c), c0_3, c1_4, c2_5, c3_6, n_7, i_8, ())) (fun s w => I s.1.1 s.1.2.1 s.1.2.2 s.2.1 s.2.2.1 s.2.2.2.1 s.2.2.2.2.1 s.2.2.2.2.2.1 s.2.2.2.2.2.2.1 w) (fun s w => μ s.1.1 s.1.2.1 s.1.2.2 s.2.1 s.2.2.1 s.2.2.2.1 s.2.2.2.2.1 s.2.2.2.2.2.1 s.2.2.2.2.2.2.1 w) h (fun s w h => hr s.1.1 s.1.2.1 s.1.2.2 s.2.1 s.2.2.1 s.2.2.2.1 s.2.2.2.2.1 s.2.2.2.2.2.1 s.2.2.2.2.2.2.1 w h)
def F96 (k : Value → W) (s_1p : Option Addr) (s_1l : Nat) (s_1c : Nat) : W :=
 Loop [.slice, (.int .u64), (.int .u64), (.int .u64), (.int .u64), (.int .i64), (.int .i64)] (F96_L1 k) s_1p s_1l s_1c 0 0 0 0 ((s_1l : Nat) : Int) 0
theorem F96_eq (k : Value → W) (s_1p : Option Addr) (s_1l : Nat) (s_1c : Nat) : compF Go.Proofs.Try.prog Go.Proofs.Try.f96 [(4, [(0, .slice), (3, (.int .u64)), (4, (.int .u64)), (5, (.int .u64)), (6, (.int .u64)), (7, (.int .i64)), (8, (.int .i64))]), (11, [(0, .slice), (2, (.int .u64)), (7, (.int .i64)), (8, (.int .i64))])] (Go.Proofs.Try.f96.body.getD .skip) [.slice s_1p s_1l s_1c] k = F96 k s_1p s_1l s_1c := by kernel_rfl
theorem F96_calls {s_1p : Option Addr} {s_1l : Nat} {s_1c : Nat} {w : World} {R : Ending → World → Prop} (h : F96 (fun v w => R (.returned v) w) s_1p s_1l s_1c w) : Calls Go.Proofs.Try.prog 96 #[.slice s_1p s_1l s_1c] w R :=
  calls_of_compF noNum follows [(4, [(0, .slice), (3, (.int .u64)), (4, (.int .u64)), (5, (.int .u64)), (6, (.int .u64)), (7, (.int .i64)), (8, (.int .i64))]), (11, [(0, .slice), (2, (.int .u64)), (7, (.int .i64)), (8, (.int .i64))])] (f := 96) (fn := Go.Proofs.Try.f96) (body := Go.Proofs.Try.f96.body.getD .skip) (args := [.slice s_1p s_1l s_1c]) rfl rfl (Nat.le_of_ble_eq_true rfl) ((congrFun (F96_eq _ s_1p s_1l s_1c) w).mpr h)
theorem F96_call {s_1p : Option Addr} {s_1l : Nat} {s_1c : Nat} {w : World} {g : Fn W (RTy.leaves (.s (.one (.int .u64))))} (h : F96 (fun v => Back (.s (.one (.int .u64))) g (.returned v)) s_1p s_1l s_1c w) : CallT Go.Proofs.Try.prog 96 [.slice s_1p s_1l s_1c] (.s (.one (.int .u64))) g w := F96_calls h

/-! ## bitset.BitSet).IsSuperSet -/
def F63_L1 (k : Value → W) (again17 : Option Addr → Option Addr → Int → Option Addr → Nat → Nat → Int → Int → W) (b_11 : Option Addr) (other_12 : Option Addr) (l_13 : Int) (s14p : Option Addr) (s14l : Nat) (s14c : Nat) (x15 : Int) (x16 : Int) : W :=
 BIf (decide (x16 < x15)) (
  NN s14p fun a18 =>
  Req (0 ≤ x16 ∧ x16 < (s14l : Int)) <|
  LoadT (.int .u64) (a18.add x16.toNat) fun x19 =>
  NN b_11 fun a20 =>
  LoadT .slice (a20.add 1) fun s21p s21l s21c =>
  NN s21p fun a22 =>
  Req (0 ≤ x16 ∧ x16 < (s21l : Int)) <|
  LoadT (.int .u64) (a22.add x16.toNat) fun x23 =>
  BIf ((andI .u64 x23 x19) != x19) (
   k (.bool false)) (
   again17 b_11 other_12 l_13 s14p s14l s14c x15 (addI .i64 x16 1))) (
  NN other_12 fun a24 =>
  LoadT .slice (a24.add 1) fun s25p s25l s25c =>
  Req (0 ≤ l_13 ∧ l_13 ≤ ((s25l : Nat) : Int)) <|
  CallT Go.Proofs.Try.prog 96 [.slice (sliceA s25p l_13.toNat s25c 1) (s25l - l_13.toNat) (s25c - l_13.toNat)] (.s (.one (.int .u64))) fun x26 =>
  k (.bool (x26 == 0)))
theorem F63_L1_rule {k : Value → W} (I : Option Addr → Option Addr → Int → Option Addr → Nat → Nat → Int → Int → W) (μ : Option Addr → Option Addr → Int → Option Addr → Nat → Nat → Int → Int → World → Nat)
  (hr : ∀ (b_11 : Option Addr) (other_12 : Option Addr) (l_13 : Int) (s14p : Option Addr) (s14l : Nat) (s14c : Nat) (x15 : Int) (x16 : Int) (w : World), I b_11 other_12 l_13 s14p s14l s14c x15 x16 w → F63_L1 k (fun b_11' other_12' l_13' s14p' s14l' s14c' x15' x16' w' => I b_11' other_12' l_13' s14p' s14l' s14c' x15' x16' w' ∧ μ b_11' other_12' l_13' s14p' s14l' s14c' x15' x16' w' < μ b_11 other_12 l_13 s14p s14l s14c x15 x16 w) b_11 other_12 l_13 s14p s14l s14c x15 x16 w)
  {w : World} {b_11 : Option Addr} {other_12 : Option Addr} {l_13 : Int} {s14p : Option Addr} {s14l : Nat} {s14c : Nat} {x15 : Int} {x16 : Int} (h : I b_11 other_12 l_13 s14p s14l s14c x15 x16 w) : Loop [.ptr, .ptr, (.int .i64), .slice, (.int .i64), (.int .i64)] (F63_L1 k) b_11 other_12 l_13 s14p s14l s14c x15 x16 w :=
  Loop_intro (ts := [.ptr, .ptr, (.int .i64), .slice, (.int .i64), (.int .i64)]) (s := (b_11, other_12, l_13, (s14p, s14l, s14c), x15, x16, ())) (fun s w => I s.1 s.2.1 s.2.2.1 s.2.2.2.1.1 s.2.2.2.1.2.1 s.2.2.2.1.2.2 s.2.2.2.2.1 s.2.2.2.2.2.1 w) (fun s w => μ s.1 s.2.1 s.2.2.1 s.2.2.2.1.1 s.2.2.2.1.2.1 s.2.2.2.1.2.2 s.2.2.2.2.1 s.2.2.2.2.2.1 w) h (fun s w h => hr s.1 s.2.1 s.2.2.1 s.2.2.2.1.1 s.2.2.2.1.2.1 s.2.2.2.1.2.2 s.2.2.2.2.1 s.2.2.2.2.2.1 w h)
def F63_J1 (k : Value → W) (b_6 : Option Addr) (other_7 : Option Addr) (l_8 : Int) : W :=
 NN other_7 fun a9 =>
 LoadT .slice (a9.add 1) fun s10p s10l s10c =>
 Req (0 ≤ l_8 ∧ l_8 ≤ (s10c : Int)) <|
 Loop [.ptr, .ptr, (.int .i64), .slice, (.int .i64), (.int .i64)] (F63_L1 k) b_6 other_7 l_8 (sliceA s10p 0 s10c 1) (l_8.toNat - 0) (s10c - 0) ((l_8.toNat - 0 : Nat) : Int) 0
def F63 (k : Value → W) (b_1 : Option Addr) (other_2 : Option Addr) : W :=
 CallT Go.Proofs.Try.prog 95 [.pointer other_2] (.s (.one (.int .i64))) fun x3 =>
 CallT Go.Proofs.Try.prog 95 [.pointer b_1] (.s (.one (.int .i64))) fun x4 =>
 BIf (decide (x4 < x3)) (
  CallT Go.Proofs.Try.prog 95 [.pointer b_1] (.s (.one (.int .i64))) fun x5 =>
  F63_J1 k b_1 other_2 x5) (
  F63_J1 k b_1 other_2 x3)
theorem F63_eq (k : Value → W) (b_1 : Option Addr) (other_2 : Option Addr) : compF Go.Proofs.Try.prog Go.Proofs.Try.f63 [(5, [(0, .ptr), (1, .ptr), (5, (.int .i64)), (21, .slice), (22, (.int .i64)), (23, (.int .i64))])] (Go.Proofs.Try.f63.body.getD .skip) [.pointer b_1, .pointer other_2] k = F63 k b_1 other_2 := by kernel_rfl
theorem F63_calls {b_1 : Option Addr} {other_2 : Option Addr} {w : World} {R : Ending → World → Prop} (h : F63 (fun v w => R (.returned v) w) b_1 other_2 w) : Calls Go.Proofs.Try.prog 63 #[.pointer b_1, .pointer other_2] w R :=
  calls_of_compF noNum follows [(5, [(0, .ptr), (1, .ptr), (5, (.int .i64)), (21, .slice), (22, (.int .i64)), (23, (.int .i64))])] (f := 63) (fn := Go.Proofs.Try.f63) (body := Go.Proofs.Try.f63.body.getD .skip) (args := [.pointer b_1, .pointer other_2]) rfl rfl (Nat.le_of_ble_eq_true rfl) ((congrFun (F63_eq _ b_1 other_2) w).mpr h)
theorem F63_call {b_1 : Option Addr} {other_2 : Option Addr} {w : World} {g : Fn W (RTy.leaves (.s (.one .bool)))} (h : F63 (fun v => Back (.s (.one .bool)) g (.returned v)) b_1 other_2 w) : CallT Go.Proofs.Try.prog 63 [.pointer b_1, .pointer other_2] (.s (.one .bool)) g w := F63_calls h

/-! ## impl.BSIsSuperSet -/
def F26 (k : Value → W) (x1 : Int) (s2p : Option Addr) (s2l : Nat) (s2c : Nat) (x3 : Int) (s4p : Option Addr) (s4l : Nat) (s4c : Nat) : W :=
 New [.int .u64 x1, .slice s2p s2l s2c] 25 fun n5 =>
 New [.int .u64 x3, .slice s4p s4l s4c] 25 fun n6 =>
 Drw <|
 LoadT (.int .u64) ⟨n5, 0, none⟩ fun x7 =>
 LoadT .slice ⟨n5, 1, none⟩ fun s8p s8l s8c =>
 LoadT (.int .u64) ⟨n6, 0, none⟩ fun x9 =>
 LoadT .slice ⟨n6, 1, none⟩ fun s10p s10l s10c =>
 CallT Go.Proofs.Try.prog 49 [.agg #[.int .u64 x7, .slice s8p s8l s8c]] (.s (.one .ptr)) fun p11 =>
 Chk1 ⟨n6, 0, none⟩ (.int .u64 x9) <|
 Chk1 ⟨n6, 1, none⟩ (.slice s10p s10l s10c) <|
 CallT Go.Proofs.Try.prog 49 [.agg #[.int .u64 x9, .slice s10p s10l s10c]] (.s (.one .ptr)) fun p12 =>
 Chk1 ⟨n5, 0, none⟩ (.int .u64 x7) <|
 Chk1 ⟨n5, 1, none⟩ (.slice s8p s8l s8c) <|
 CallT Go.Proofs.Try.prog 63 [.pointer p11, .pointer p12] (.s (.one .bool)) fun b13 =>
 Chk1 ⟨n6, 0, none⟩ (.int .u64 x9) <|
 Chk1 ⟨n6, 1, none⟩ (.slice s10p s10l s10c) <|
 Chk1 ⟨n5, 0, none⟩ (.int .u64 x7) <|
 Chk1 ⟨n5, 1, none⟩ (.slice s8p s8l s8c) <|
 k (.bool b13)
theorem F26_eq (k : Value → W) (x1 : Int) (s2p : Option Addr) (s2l : Nat) (s2c : Nat) (x3 : Int) (s4p : Option Addr) (s4l : Nat) (s4c : Nat) : compF Go.Proofs.Try.prog Go.Proofs.Try.f26 [] (Go.Proofs.Try.f26.body.getD .skip) [.agg #[.int .u64 x1, .slice s2p s2l s2c], .agg #[.int .u64 x3, .slice s4p s4l s4c]] k = F26 k x1 s2p s2l s2c x3 s4p s4l s4c := by kernel_rfl
theorem F26_calls {x1 : Int} {s2p : Option Addr} {s2l : Nat} {s2c : Nat} {x3 : Int} {s4p : Option Addr} {s4l : Nat} {s4c : Nat} {w : World} {R : Ending → World → Prop} (h : F26 (fun v w => R (.returned v) w) x1 s2p s2l s2c x3 s4p s4l s4c w) : Calls Go.Proofs.Try.prog 26 #[.agg #[.int .u64 x1, .slice s2p s2l s2c], .agg #[.int .u64 x3, .slice s4p s4l s4c]] w R :=
  calls_of_compF noNum follows [] (f := 26) (fn := Go.Proofs.Try.f26) (body := Go.Proofs.Try.f26.body.getD .skip) (args := [.agg #[.int .u64 x1, .slice s2p s2l s2c], .agg #[.int .u64 x3, .slice s4p s4l s4c]]) rfl rfl (Nat.le_of_ble_eq_true rfl) ((congrFun (F26_eq _ x1 s2p s2l s2c x3 s4p s4l s4c) w).mpr h)
theorem F26_call {x1 : Int} {s2p : Option Addr} {s2l : Nat} {s2c : Nat} {x3 : Int} {s4p : Option Addr} {s4l : Nat} {s4c : Nat} {w : World} {g : Fn W (RTy.leaves (.s (.one .bool)))} (h : F26 (fun v => Back (.s (.one .bool)) g (.returned v)) x1 s2p s2l s2c x3 s4p s4l s4c w) : CallT Go.Proofs.Try.prog 26 [.agg #[.int .u64 x1, .slice s2p s2l s2c], .agg #[.int .u64 x3, .slice s4p s4l s4c]] (.s (.one .bool)) g w := F26_calls h

/-! ## bitset.BitSet).Count -/
def F67_J1 (k : Value → W) (b_4 : Option Addr) (b5 : Bool) : W :=
 BIf b5 (
  NN b_4 fun a6 =>
  LoadT .slice (a6.add 1) fun s7p s7l s7c =>
  CallT Go.Proofs.Try.prog 96 [.slice s7p s7l s7c] (.s (.one (.int .u64))) fun x8 =>
  k (.int .u64 x8)) (
  k (.int .u64 0))
def F67 (k : Value → W) (b_1 : Option Addr) : W :=
 BIf (!b_1.isNone) (
  NN b_1 fun a2 =>
  LoadT .slice (a2.add 1) fun s3p s3l s3c =>
  F67_J1 k b_1 (!s3p.isNone)) (
  F67_J1 k b_1 false)
theorem F67_eq (k : Value → W) (b_1 : Option Addr) : compF Go.Proofs.Try.prog Go.Proofs.Try.f67 [] (Go.Proofs.Try.f67.body.getD .skip) [.pointer b_1] k = F67 k b_1 := by kernel_rfl
theorem F67_calls {b_1 : Option Addr} {w : World} {R : Ending → World → Prop} (h : F67 (fun v w => R (.returned v) w) b_1 w) : Calls Go.Proofs.Try.prog 67 #[.pointer b_1] w R :=
  calls_of_compF noNum follows [] (f := 67) (fn := Go.Proofs.Try.f67) (body := Go.Proofs.Try.f67.body.getD .skip) (args := [.pointer b_1]) rfl rfl (Nat.le_of_ble_eq_true rfl) ((congrFun (F67_eq _ b_1) w).mpr h)
theorem F67_call {b_1 : Option Addr} {w : World} {g : Fn W (RTy.leaves (.s (.one (.int .u64))))} (h : F67 (fun v => Back (.s (.one (.int .u64))) g (.returned v)) b_1 w) : CallT Go.Proofs.Try.prog 67 [.pointer b_1] (.s (.one (.int .u64))) g w := F67_calls h

/-! ## bitset.BitSet).IsStrictSuperSet -/
def F64 (k : Value → W) (b_1 : Option Addr) (other_2 : Option Addr) : W :=
 CallT Go.Proofs.Try.prog 67 [.pointer b_1] (.s (.one (.int .u64))) fun x3 =>
 CallT Go.Proofs.Try.prog 67 [.pointer other_2] (.s (.one (.int .u64))) fun x4 =>
 BIf (decide (x3 > x4)) (
  CallT Go.Proofs.Try.prog 63 [.pointer b_1, .pointer other_2] (.s (.one .bool)) fun b5 =>
  k (.bool b5)) (
  k (.bool false))
theorem F64_eq (k : Value → W) (b_1 : Option Addr) (other_2 : Option Addr) : compF Go.Proofs.Try.prog Go.Proofs.Try.f64 [] (Go.Proofs.Try.f64.body.getD .skip) [.pointer b_1, .pointer other_2] k = F64 k b_1 other_2 := by kernel_rfl
theorem F64_calls {b_1 : Option Addr} {other_2 : Option Addr} {w : World} {R : Ending → World → Prop} (h : F64 (fun v w => R (.returned v) w) b_1 other_2 w) : Calls Go.Proofs.Try.prog 64 #[.pointer b_1, .pointer other_2] w R :=
  calls_of_compF noNum follows [] (f := 64) (fn := Go.Proofs.Try.f64) (body := Go.Proofs.Try.f64.body.getD .skip) (args := [.pointer b_1, .pointer other_2]) rfl rfl (Nat.le_of_ble_eq_true rfl) ((congrFun (F64_eq _ b_1 other_2) w).mpr h)
theorem F64_call {b_1 : Option Addr} {other_2 : Option Addr} {w : World} {g : Fn W (RTy.leaves (.s (.one .bool)))} (h : F64 (fun v => Back (.s (.one .bool)) g (.returned v)) b_1 other_2 w) : CallT Go.Proofs.Try.prog 64 [.pointer b_1, .pointer other_2] (.s (.one .bool)) g w := F64_calls h

/-! ## impl.BSIsStrictSuperSet -/
def F27 (k : Value → W) (x1 : Int) (s2p : Option Addr) (s2l : Nat) (s2c : Nat) (x3 : Int) (s4p : Option Addr) (s4l : Nat) (s4c : Nat) : W :=
 New [.int .u64 x1, .slice s2p s2l s2c] 25 fun n5 =>
 New [.int .u64 x3, .slice s4p s4l s4c] 25 fun n6 =>
 Drw <|
 LoadT (.int .u64) ⟨n5, 0, none⟩ fun x7 =>
 LoadT .slice ⟨n5, 1, none⟩ fun s8p s8l s8c =>
 LoadT (.int .u64) ⟨n6, 0, none⟩ fun x9 =>
 LoadT .slice ⟨n6, 1, none⟩ fun s10p s10l s10c =>
 CallT Go.Proofs.Try.prog 49 [.agg #[.int .u64 x7, .slice s8p s8l s8c]] (.s (.one .ptr)) fun p11 =>
 Chk1 ⟨n6, 0, none⟩ (.int .u64 x9) <|
 Chk1 ⟨n6, 1, none⟩ (.slice s10p s10l s10c) <|
 CallT Go.Proofs.Try.prog 49 [.agg #[.int .u64 x9, .slice s10p s10l s10c]] (.s (.one .ptr)) fun p12 =>
 Chk1 ⟨n5, 0, none⟩ (.int .u64 x7) <|
 Chk1 ⟨n5, 1, none⟩ (.slice s8p s8l s8c) <|
 CallT Go.Proofs.Try.prog 64 [.pointer p11, .pointer p12] (.s (.one .bool)) fun b13 =>
 Chk1 ⟨n6, 0, none⟩ (.int .u64 x9) <|
 Chk1 ⟨n6, 1, none⟩ (.slice s10p s10l s10c) <|
 Chk1 ⟨n5, 0, none⟩ (.int .u64 x7) <|
 Chk1 ⟨n5, 1, none⟩ (.slice s8p s8l s8c) <|
 k (.bool b13)
theorem F27_eq (k : Value → W) (x1 : Int) (s2p : Option Addr) (s2l : Nat) (s2c : Nat) (x3 : Int) (s4p : Option Addr) (s4l : Nat) (s4c : Nat) : compF Go.Proofs.Try.prog Go.Proofs.Try.f27 [] (Go.Proofs.Try.f27.body.getD .skip) [.agg #[.int .u64 x1, .slice s2p s2l s2c], .agg #[.int .u64 x3, .slice s4p s4l s4c]] k = F27 k x1 s2p s2l s2c x3 s4p s4l s4c := by kernel_rfl
theorem F27_calls {x1 : Int} {s2p : Option Addr} {s2l : Nat} {s2c : Nat} {x3 : Int} {s4p : Option Addr} {s4l : Nat} {s4c : Nat} {w : World} {R : Ending → World → Prop} (h : F27 (fun v w => R (.returned v) w) x1 s2p s2l s2c x3 s4p s4l s4c w) : Calls Go.Proofs.Try.prog 27 #[.agg #[.int .u64 x1, .slice s2p s2l s2c], .agg #[.int .u64 x3, .slice s4p s4l s4c]] w R :=
  calls_of_compF noNum follows [] (f := 27) (fn := Go.Proofs.Try.f27) (body := Go.Proofs.Try.f27.body.getD .skip) (args := [.agg #[.int .u64 x1, .slice s2p s2l s2c], .agg #[.int .u64 x3, .slice s4p s4l s4c]]) rfl rfl (Nat.le_of_ble_eq_true rfl) ((congrFun (F27_eq _ x1 s2p s2l s2c x3 s4p s4l s4c) w).mpr h)
theorem F27_call {x1 : Int} {s2p : Option Addr} {s2l : Nat} {s2c : Nat} {x3 : Int} {s4p : Option Addr} {s4l : Nat} {s4c : Nat} {w : World} {g : Fn W (RTy.leaves (.s (.one .bool)))} (h : F27 (fun v => Back (.s (.one .bool)) g (.returned v)) x1 s2p s2l s2c x3 s4p s4l s4c w) : CallT Go.Proofs.Try.prog 27 [.agg #[.int .u64 x1, .slice s2p s2l s2c], .agg #[.int .u64 x3, .slice s4p s4l s4c]] (.s (.one .bool)) g w := F27_calls h

/-! ## bitset.popcntMaskSlice -/
def F97_L2 (k : Value → W) (again44 : Option Addr → Nat → Nat → Option Addr → Nat → Nat → Int → Int → Int → W) (s_39p : Option Addr) (s_39l : Nat) (s_39c : Nat) (m_40p : Option Addr) (m_40l : Nat) (m_40c : Nat) (cnt_41 : Int) (n_42 : Int) (i_43 : Int) : W :=
 BIf (decide (i_43 < n_42)) (
  Drw <|
  NN s_39p fun a45 =>
  Req (0 ≤ i_43 ∧ i_43 < (s_39l : Int)) <|
  LoadT (.int .u64) (a45.add i_43.toNat) fun x46 =>
  NN m_40p fun a47 =>
  Req (0 ≤ i_43 ∧ i_43 < (m_40l : Int)) <|
  LoadT (.int .u64) (a47.add i_43.toNat) fun x48 =>
  CallT Go.Proofs.Try.prog 93 [.int .u64 (andNotI .u64 x46 x48)] (.s (.one (.int .i64))) fun x49 =>
  Chk1 (a47.add i_43.toNat) (.int .u64 x48) <|
  Chk1 (a45.add i_43.toNat) (.int .u64 x46) <|
  Bind (addI .u64 cnt_41 (IntKind.wrap .u64 x49) : Int) fun cnt_50 =>
  again44 s_39p s_39l s_39c m_40p m_40l m_40c cnt_50 n_42 (addI .i64 i_43 1)) (
  k (.int .u64 cnt_41))
theorem F97_L2_rule {k : Value → W} (I : Option Addr → Nat → Nat → Option Addr → Nat → Nat → Int → Int → Int → W) (μ : Option Addr → Nat → Nat → Option Addr → Nat → Nat → Int → Int → Int → World → Nat)
  (hr : ∀ (s_39p : Option Addr) (s_39l : Nat) (s_39c : Nat) (m_40p : Option Addr) (m_40l : Nat) (m_40c : Nat) (cnt_41 : Int) (n_42 : Int) (i_43 : Int) (w : World), I s_39p s_39l s_39c m_40p m_40l m_40c cnt_41 n_42 i_43 w → F97_L2 k (fun s_39p' s_39l' s_39c' m_40p' m_40l' m_40c' cnt_41' n_42' i_43' w' => I s_39p' s_39l' s_39c' m_40p' m_40l' m_40c' cnt_41' n_42' i_43' w' ∧ μ s_39p' s_39l' s_39c' m_40p' m_40l' m_40c' cnt_41' n_42' i_43' w' < μ s_39p s_39l s_39c m_40p m_40l m_40c cnt_41 n_42 i_43 w) s_39p s_39l s_39c m_40p m_40l m_40c cnt_41 n_42 i_43 w)
  {w : World} {s_39p : Option Addr} {s_39l : Nat} {s_39c : Nat} {m_40p : Option Addr} {m_40l : Nat} {m_40c : Nat} {cnt_41 : Int} {n_42 : Int} {i_43 : Int} (h : I s_39p s_39l s_39c m_40p m_40l m_40c cnt_41 n_42 i_43 w) : Loop [.slice, .slice, (.int .u64), (.int .i64), (.int .i64)] (F97_L2 k) s_39p s_39l s_39c m_40p m_40l m_40c cnt_41 n_42 i_43 w :=
  Loop_intro (ts := [.slice, .slice, (.int .u64), (.int .i64), (.int .i64)]) (s := ((s_39p, s_39l, s_39c), (m_40p, m_40l, m_40c), cnt_41, n_42, i_43, ())) (fun s w => I s.1.1 s.1.2.1 s.1.2.2 s.2.1.1 s.2.1.2.1 s.2.1.2.2 s.2.2.1 s.2.2.2.1 s.2.2.2.2.1 w) (fun s w => μ s.1.1 s.1.2.1 s.1.2.2 s.2.1.1 s.2.1.2.1 s.2.1.2.2 s.2.2.1 s.2.2.2.1 s.2.2.2.2.1 w) h (fun s w h => hr s.1.1 s.1.2.1 s.1.2.2 s.2.1.1 s.2.1.2.1 s.2.1.2.2 s.2.2.1 s.2.2.2.1 s.2.2.2.2.1 w h)
def F97_L1 (k : Value → W) (again13 : Option Addr → Nat → Nat → Option Addr → Nat → Nat → Int → Int → Int → Int → Int → Int → W) (s_5p : Option Addr) (s_5l : Nat) (s_5c : Nat) (m_6p : Option Addr) (m_6l : Nat) (m_6c : Nat) (c0_7 : Int) (c1_8 : Int) (c2_9 : Int) (c3_10 : Int) (n_11 : Int) (i_12 : Int) : W :=
 BIf (decide (i_12 ≤ (subI .i64 n_11 4))) (
  Drw <|
  NN s_5p fun a14 =>
  Req (0 ≤ i_12 ∧ i_12 < (s_5l : Int)) <|
  LoadT (.int .u64) (a14.add i_12.toNat) fun x15 =>
  NN m_6p fun a16 =>
  Req (0 ≤ i_12 ∧ i_12 < (m_6l : Int)) <|
  LoadT (.int .u64) (a16.add i_12.toNat) fun x17 =>
  CallT Go.Proofs.Try.prog 93 [.int .u64 (andNotI .u64 x15 x17)] (.s (.one (.int .i64))) fun x18 =>
  Chk1 (a16.add i_12.toNat) (.int .u64 x17) <|
  Chk1 (a14.add i_12.toNat) (.int .u64 x15) <|
  Bind (addI .u64 c0_7 (IntKind.wrap .u64 x18) : Int) fun c0_19 =>
  Drw <|
  NN s_5p fun a20 =>
  Req (0 ≤ addI .i64 i_12 1 ∧ addI .i64 i_12 1 < (s_5l : Int)) <|
  LoadT (.int .u64) (a20.add ((addI .i64 i_12 1).toNat)) fun x21 =>
  NN m_6p fun a22 =>
  Req (0 ≤ addI .i64 i_12 1 ∧ addI .i64 i_12 1 < (m_6l : Int)) <|
  LoadT (.int .u64) (a22.add ((addI .i64 i_12 1).toNat)) fun x23 =>
  CallT Go.Proofs.Try.prog 93 [.int .u64 (andNotI .u64 x21 x23)] (.s (.one (.int .i64))) fun x24 =>
  Chk1 (a22.add ((addI .i64 i_12 1).toNat)) (.int .u64 x23) <|
  Chk1 (a20.add ((addI .i64 i_12 1).toNat)) (.int .u64 x21) <|
  Bind (addI .u64 c1_8 (IntKind.wrap .u64 x24) : Int) fun c1_25 =>
  Drw <|
  NN s_5p fun a26 =>
  Req (0 ≤ addI .i64 i_12 2 ∧ addI .i64 i_12 2 < (s_5l : Int)) <|
  LoadT (.int .u64) (a26.add ((addI .i64 i_12 2).toNat)) fun x27 =>
  NN m_6p fun a28 =>
  Req (0 ≤ addI .i64 i_12 2 ∧ addI .i64 i_12 2 < (m_6l : Int)) <|
  LoadT (.int .u64) (a28.add ((addI .i64 i_12 2).toNat)) fun x29 =>
  CallT Go.Proofs.Try.prog 93 [.int .u64 (andNotI .u64 x27 x29)] (.s (.one (.int .i64))) fun x30 =>
  Chk1 (a28.add ((addI .i64 i_12 2).toNat)) (.int .u64 x29) <|
  Chk1 (a26.add ((addI .i64 i_12 2).toNat)) (.int .u64 x27) <|
  Bind (addI .u64 c2_9 (IntKind.wrap .u64 x30) : Int) fun c2_31 =>
  Drw <|
  NN s_5p fun a32 =>
  Req (0 ≤ addI .i64 i_12 3 ∧ addI .i64 i_12 3 < (s_5l : Int)) <|
  LoadT (.int .u64) (a32.add ((addI .i64 i_12 3).toNat)) fun x33 =>
  NN m_6p fun a34 =>
  Req (0 ≤ addI .i64 i_12 3 ∧ addI .i64 i_12 3 < (m_6l : Int)) <|
  LoadT (.int .u64) (a34.add ((addI .i64 i_12 3).toNat)) fun x35 =>
  CallT Go.Proofs.Try.prog 93 [.int .u64 (andNotI .u64 x33 x35)] (.s (.one (.int .i64))) fun x36 =>
  Chk1 (a34.add ((addI .i64 i_12 3).toNat)) (.int .u64 x35) <|
  Chk1 (a32.add ((addI .i64 i_12 3).toNat)) (.int .u64 x33) <|
  Bind (addI .u64 c3_10 (IntKind.wrap .u64 x36) : Int) fun c3_37 =>
  again13 s_5p s_5l s_5c m_6p m_6l m_6c c0_19 c1_25 c2_31 c3_37 n_11 (addI .i64 i_12 4)) (
  Bind (addI .u64 (addI .u64 (addI .u64 c0_7 c1_8) c2_9) c3_10 : Int) fun cnt_38 =>
  Loop [.slice, .slice, (.int .u64), (.int .i64), (.int .i64)] (F97_L2 k) s_5p s_5l s_5c m_6p m_6l m_6c cnt_38 n_11 i_12)
theorem F97_L1_rule {k : Value → W} (I : Option Addr → Nat → Nat → Option Addr → Nat → Nat → Int → Int → Int → Int → Int → Int → W) (μ : Option Addr → Nat → Nat → Option Addr → Nat → Nat → Int → Int → Int → Int → Int → Int → World → Nat)
  (hr : ∀ (s_5p : Option Addr) (s_5l : Nat) (s_5c : Nat) (m_6p : Option Addr) (m_6l : Nat) (m_6c : Nat) (c0_7 : Int) (c1_8 : Int) (c2_9 : Int) (c3_10 : Int) (n_11 : Int) (i_12 : Int) (w : World), I s_5p s_5l s_5c m_6p m_6l m_6c c0_7 c1_8 c2_9 c3_10 n_11 i_12 w → F97_L1 k (fun s_5p' s_5l' s_5c' m_6p' m_6l' m_6c' c0_7' c1_8' c2_9' c3_10' n_11' i_12' w' => I s_5p' s_5l' s_5c' m_6p' m_6l' m_6c' c0_7' c1_8' c2_9' c3_10' n_11' i_12' w' ∧ μ s_5p' s_5l' s_5c' m_6p' m_6l' m_6c' c0_7' c1_8' c2_9' c3_10' n_11' i_12' w' < μ s_5p s_5l s_5c m_6p m_6l m_6c c0_7 c1_8 c2_9 c3_10 n_11 i_12 w) s_5p s_5l s_5c m_6p m_6l m_6c c0_7 c1_8 c2_9 c3_10 n_11 i_12 w)
  {w : World} {s_5p : Option Addr} {s_5l : Nat} {s_5c : Nat} {m_6p : Option Addr} {m_6l : Nat} {m_6c : Nat} {c0_7 : Int} {c1_8 : Int} {c2_9 : Int} {c3_10 : Int} {n_11 : Int} {i_12 : Int} (h : I s_5p s_5l s_5c m_6p m_6l m_6c c0_7 c1_8 c2_9 c3_10 n_11 i_12 w) : Loop [.slice, .slice, (.int .u64), (.int .u64), (.int .u64), (.int .u64), (.int .i64), (.int .i64)] (F97_L1 k) s_5p s_5l s_5c m_6p m_6l m_6c c0_7 c1_8 c2_9 c3_10 n_11 i_12 w :=
  Loop_intro (ts := [.slice, .slice, (.int .u64), (.int .u64), (.int .u64), (.int .u64), (.int .i64), (.int .i64)]) (s := ((s_5p, s_5l, s_5c), (m_6p, m_6l, m_6c), c0_7, c1_8, c2_9, c3_10, n_11, i_12, ())) (fun s w => I s.1.1 s.1.2.1 s.1.2.2 s.2.1.1 s.2.1.2.1 s.2.1.2.2 s.2.2.1 s.2.2.2.1 s.2.2.2.2.1 s.2.2.2.2.2.1 s.2.2.2.2.2.2.1 s.2.2.2.2.2.2.2.1 w) (fun s w => μ s.1.1 s.1.2.1 s.1.2.2 s.2.1.1 s.2.1.2.1 s.2.1.2.2 s.2.2.1 s.2.2.2.1 s.2.2.2.2.1 s.2.2.2.2.2.1 s.2.2.2.2.2.2.1 s.2.2.2.2.2.2.2.1 w) h (fun s w h => hr s.1.1 s.1.2.1 s.1.2.2 s.2.1.1 s.2.1.2.1 s.2.1.2.2 s.2.2.1 s.2.2.2.1 s.2.2.2.2.1 s.2.2.2.2.2.1 s.2.2.2.2.2.2.1 s.2.2.2.2.2.2.2.1 w h)
def F97 (k : Value → W) (s_1p : Option Addr) (s_1l : Nat) (s_1c : Nat) (m_2p : Option Addr) (m_2l : Nat) (m_2c : Nat) : W :=
 NN m_2p fun a3 =>
 Req (0 ≤ subI .i64 ((s_1l : Nat) : Int) 1 ∧ subI .i64 ((s_1l : Nat) : Int) 1 < (m_2l : Int)) <|
 LoadT (.int .u64) (a3.add ((subI .i64 ((s_1l : Nat) : Int) 1).toNat)) fun x4 =>
 Loop [.slice, .slice, (.int .u64), (.int .u64), (.int .u64), (.int .u64), (.int .i64), (.int .i64)] (F97_L1 k) s_1p s_1l s_1c m_2p m_2l m_2c 0 0 0 0 ((s_1l : Nat) : Int) 0
theorem F97_eq (k : Value → W) (s_1p : Option Addr) (s_1l : Nat) (s_1c : Nat) (m_2p : Option Addr) (m_2l : Nat) (m_2c : Nat) : compF Go.Proofs.Try.prog Go.Proofs.Try.f97 [(5, [(0, .slice), (1, .slice), (5, (.int .u64)), (6, (.int .u64)), (7, (.int .u64)), (8, (.int .u64)), (9, (.int .i64)), (10, (.int .i64))]), (12, [(0, .slice), (1, .slice), (4, (.int .u64)), (9, (.int .i64)), (10, (.int .i64))])] (Go.Proofs.Try.f97.body.getD .skip) [.slice s_1p s_1l s_1c, .slice m_2p m_2l m_2c] k = F97 k s_1p s_1l s_1c m_2p m_2l m_2c := by kernel_rfl
theorem F97_calls {s_1p : Option Addr} {s_1l : Nat} {s_1c : Nat} {m_2p : Option Addr} {m_2l : Nat} {m_2c : Nat} {w : World} {R : Ending → World → Prop} (h : F97 (fun v w => R (.returned v) w) s_1p s_1l s_1c m_2p m_2l m_2c w) : Calls Go.Proofs.Try.prog 97 #[.slice s_1p s_1l s_1c, .slice m_2p m_2l m_2c] w R :=
  calls_of_compF noNum follows [(5, [(0, .slice), (1, .slice), (5, (.int .u64)), (6, (.int .u64)), (7, (.int .u64)), (8, (.int .u64)), (9, (.int .i64)), (10, (.int .i64))]), (12, [(0, .slice), (1, .slice), (4, (.int .u64)), (9, (.int .i64)), (10, (.int .i64))])] (f := 97) (fn := Go.Proofs.Try.f97) (body := Go.Proofs.Try.f97.body.getD .skip) (args := [.slice s_1p s_1l s_1c, .slice m_2p m_2l m_2c]) rfl rfl (Nat.le_of_ble_eq_true rfl) ((congrFun (F97_eq _ s_1p s_1l s_1c m_2p m_2l m_2c) w).mpr h)
theorem F97_call {s_1p : Option Addr} {s_1l : Nat} {s_1c : Nat} {m_2p : Option Addr} {m_2l : Nat} {m_2c : Nat} {w : World} {g : Fn W (RTy.leaves (.s (.one (.int .u64))))} (h : F97 (fun v => Back (.s (.one (.int .u64))) g (.returned v)) s_1p s_1l s_1c m_2p m_2l m_2c w) : CallT Go.Proofs.Try.prog 97 [.slice s_1p s_1l s_1c, .slice m_2p m_2l m_2c] (.s (.one (.int .u64))) g w := F97_calls h

/-! ## bitset.BitSet).DifferenceCardinality -/
def F65_J2 (k : Value → W) (b_14 : Option Addr) (l_15 : Int) (cnt_16 : Int) : W :=
 NN b_14 fun a17 =>
 LoadT .slice (a17.add 1) fun s18p s18l s18c =>
 Req (0 ≤ l_15 ∧ l_15 ≤ ((s18l : Nat) : Int)) <|
 CallT Go.Proofs.Try.prog 96 [.slice (sliceA s18p l_15.toNat s18c 1) (s18l - l_15.toNat) (s18c - l_15.toNat)] (.s (.one (.int .u64))) fun x19 =>
 k (.int .u64 (addI .u64 cnt_16 x19))
def F65_J1 (k : Value → W) (b_6 : Option Addr) (compare_7 : Option Addr) (l_8 : Int) : W :=
 BIf (decide (l_8 > 0)) (
  Drw <|
  NN b_6 fun a9 =>
  LoadT .slice (a9.add 1) fun s10p s10l s10c =>
  Req (0 ≤ l_8 ∧ l_8 ≤ (s10c : Int)) <|
  NN compare_7 fun a11 =>
  LoadT .slice (a11.add 1) fun s12p s12l s12c =>
  Req (0 ≤ l_8 ∧ l_8 ≤ (s12c : Int)) <|
  CallT Go.Proofs.Try.prog 97 [.slice (sliceA s10p 0 s10c 1) (l_8.toNat - 0) (s10c - 0), .slice (sliceA s12p 0 s12c 1) (l_8.toNat - 0) (s12c - 0)] (.s (.one (.int .u64))) fun x13 =>
  Chk1 (a11.add 1) (.slice s12p s12l s12c) <|
  Chk1 (a9.add 1) (.slice s10p s10l s10c) <|
  F65_J2 k b_6 l_8 (addI .u64 0 x13)) (
  F65_J2 k b_6 l_8 0)
def F65 (k : Value → W) (b_1 : Option Addr) (compare_2 : Option Addr) : W :=
 CallT Go.Proofs.Try.prog 89 [.pointer b_1] (.tup []) <|
 CallT Go.Proofs.Try.prog 89 [.pointer compare_2] (.tup []) <|
 CallT Go.Proofs.Try.prog 95 [.pointer compare_2] (.s (.one (.int .i64))) fun x3 =>
 CallT Go.Proofs.Try.prog 95 [.pointer b_1] (.s (.one (.int .i64))) fun x4 =>
 BIf (decide (x3 > x4)) (
  CallT Go.Proofs.Try.prog 95 [.pointer b_1] (.s (.one (.int .i64))) fun x5 =>
  F65_J1 k b_1 compare_2 x5) (
  F65_J1 k b_1 compare_2 x3)
theorem F65_eq (k : Value → W) (b_1 : Option Addr) (compare_2 : Option Addr) : compF Go.Proofs.Try.prog Go.Proofs.Try.f65 [] (Go.Proofs.Try.f65.body.getD .skip) [.pointer b_1, .pointer compare_2] k = F65 k b_1 compare_2 := by kernel_rfl
theorem F65_calls {b_1 : Option Addr} {compare_2 : Option Addr} {w : World} {R : Ending → World → Prop} (h : F65 (fun v w => R (.returned v) w) b_1 compare_2 w) : Calls Go.Proofs.Try.prog 65 #[.pointer b_1, .pointer compare_2] w R :=
  calls_of_compF noNum follows [] (f := 65) (fn := Go.Proofs.Try.f65) (body := Go.Proofs.Try.f65.body.getD .skip) (args := [.pointer b_1, .pointer compare_2]) rfl rfl (Nat.le_of_ble_eq_true rfl) ((congrFun (F65_eq _ b_1 compare_2) w).mpr h)
theorem F65_call {b_1 : Option Addr} {compare_2 : Option Addr} {w : World} {g : Fn W (RTy.leaves (.s (.one (.int .u64))))} (h : F65 (fun v => Back (.s (.one (.int .u64))) g (.returned v)) b_1 compare_2 w) : CallT Go.Proofs.Try.prog 65 [.pointer b_1, .pointer compare_2] (.s (.one (.int .u64))) g w := F65_calls h

/-! ## impl.BSDifferenceCardinality -/
def F28 (k : Value → W) (x1 : Int) (s2p : Option Addr) (s2l : Nat) (s2c : Nat) (x3 : Int) (s4p : Option Addr) (s4l : Nat) (s4c : Nat) : W :=
 New [.int .u64 x1, .slice s2p s2l s2c] 25 fun n5 =>
 New [.int .u64 x3, .slice s4p s4l s4c] 25 fun n6 =>
 Drw <|
 LoadT (.int .u64) ⟨n5, 0, none⟩ fun x7 =>
 LoadT .slice ⟨n5, 1, none⟩ fun s8p s8l s8c =>
 LoadT (.int .u64) ⟨n6, 0, none⟩ fun x9 =>
 LoadT .slice ⟨n6, 1, none⟩ fun s10p s10l s10c =>
 CallT Go.Proofs.Try.prog 49 [.agg #[.int .u64 x7, .slice s8p s8l s8c]] (.s (.one .ptr)) fun p11 =>
 Chk1 ⟨n6, 0, none⟩ (.int .u64 x9) <|
 Chk1 ⟨n6, 1, none⟩ (.slice s10p s10l s10c) <|
 CallT Go.Proofs.Try.prog 49 [.agg #[.int .u64 x9, .slice s10p s10l s10c]] (.s (.one .ptr)) fun p12 =>
 Chk1 ⟨n5, 0, none⟩ (.int .u64 x7) <|
 Chk1 ⟨n5, 1, none⟩ (.slice s8p s8l s8c) <|
 CallT Go.Proofs.Try.prog 65 [.pointer p11, .pointer p12] (.s (.one (.int .u64))) fun x13 =>
 Chk1 ⟨n6, 0, none⟩ (.int .u64 x9) <|
 Chk1 ⟨n6, 1, none⟩ (.slice s10p s10l s10c) <|
 Chk1 ⟨n5, 0, none⟩ (.int .u64 x7) <|
 Chk1 ⟨n5, 1, none⟩ (.slice s8p s8l s8c) <|
 k (.int .u64 x13)
theorem F28_eq (k : Value → W) (x1 : Int) (s2p : Option Addr) (s2l : Nat) (s2c : Nat) (x3 : Int) (s4p : Option Addr) (s4l : Nat) (s4c : Nat) : compF Go.Proofs.Try.prog Go.Proofs.Try.f28 [] (Go.Proofs.Try.f28.body.getD .skip) [.agg #[.int .u64 x1, .slice s2p s2l s2c], .agg #[.int .u64 x3, .slice s4p s4l s4c]] k = F28 k x1 s2p s2l s2c x3 s4p s4l s4c := by kernel_rfl
theorem F28_calls {x1 : Int} {s2p : Option Addr} {s2l : Nat} {s2c : Nat} {x3 : Int} {s4p : Option Addr} {s4l : Nat} {s4c : Nat} {w : World} {R : Ending → World → Prop} (h : F28 (fun v w => R (.returned v) w) x1 s2p s2l s2c x3 s4p s4l s4c w) : Calls Go.Proofs.Try.prog 28 #[.agg #[.int .u64 x1, .slice s2p s2l s2c], .agg #[.int .u64 x3, .slice s4p s4l s4c]] w R :=
  calls_of_compF noNum follows [] (f := 28) (fn := Go.Proofs.Try.f28) (body := Go.Proofs.Try.f28.body.getD .skip) (args := [.agg #[.int .u64 x1, .slice s2p s2l s2c], .agg #[.int .u64 x3, .slice s4p s4l s4c]]) rfl rfl (Nat.le_of_ble_eq_true rfl) ((congrFun (F28_eq _ x1 s2p s2l s2c x3 s4p s4l s4c) w).mpr h)
theorem F28_call {x1 : Int} {s2p : Option Addr} {s2l : Nat} {s2c : Nat} {x3 : Int} {s4p : Option Addr} {s4l : Nat} {s4c : Nat} {w : World} {g : Fn W (RTy.leaves (.s (.one (.int .u64))))} (h : F28 (fun v => Back (.s (.one (.int .u64))) g (.returned v)) x1 s2p s2l s2c x3 s4p s4l s4c w) : CallT Go.Proofs.Try.prog 28 [.agg #[.int .u64 x1, .slice s2p s2l s2c], .agg #[.int .u64 x3, .slice s4p s4l s4c]] (.s (.one (.int .u64))) g w := F28_calls h

/-! ## laws.FnBSDeepSuper -/
def F6_J2 (k : Value → W) (a_39 : Addr) (b_40 : Addr) (u_41 : Addr) (n_42 : Addr) : W :=
 Drw <|
 LoadT (.int .u64) (u_41.add 0) fun x43 =>
 LoadT .slice (u_41.add 1) fun s44p s44l s44c =>
 LoadT (.int .u64) (a_39.add 0) fun x45 =>
 LoadT .slice (a_39.add 1) fun s46p s46l s46c =>
 CallT Go.Proofs.Try.prog 26 [.agg #[.int .u64 x43, .slice s44p s44l s44c], .agg #[.int .u64 x45, .slice s46p s46l s46c]] (.s (.one .bool)) fun b47 =>
 BIf b47 (
  LoadT (.int .u64) (u_41.add 0) fun x48 =>
  LoadT .slice (u_41.add 1) fun s49p s49l s49c =>
  LoadT (.int .u64) (b_40.add 0) fun x50 =>
  LoadT .slice (b_40.add 1) fun s51p s51l s51c =>
  CallT Go.Proofs.Try.prog 26 [.agg #[.int .u64 x48, .slice s49p s49l s49c], .agg #[.int .u64 x50, .slice s51p s51l s51c]] (.s (.one .bool)) fun b52 =>
  Chk1 (a_39.add 0) (.int .u64 x45) <|
  Chk1 (a_39.add 1) (.slice s46p s46l s46c) <|
  Chk1 (u_41.add 0) (.int .u64 x43) <|
  Chk1 (u_41.add 1) (.slice s44p s44l s44c) <|
  BIf b52 (
   LoadT (.int .u64) (a_39.add 0) fun x53 =>
   LoadT .slice (a_39.add 1) fun s54p s54l s54c =>
   LoadT (.int .u64) (n_42.add 0) fun x55 =>
   LoadT .slice (n_42.add 1) fun s56p s56l s56c =>
   CallT Go.Proofs.Try.prog 26 [.agg #[.int .u64 x53, .slice s54p s54l s54c], .agg #[.int .u64 x55, .slice s56p s56l s56c]] (.s (.one .bool)) fun b57 =>
   Chk1 (b_40.add 0) (.int .u64 x50) <|
   Chk1 (b_40.add 1) (.slice s51p s51l s51c) <|
   Chk1 (u_41.add 0) (.int .u64 x48) <|
   Chk1 (u_41.add 1) (.slice s49p s49l s49c) <|
   Chk1 (a_39.add 0) (.int .u64 x45) <|
   Chk1 (a_39.add 1) (.slice s46p s46l s46c) <|
   Chk1 (u_41.add 0) (.int .u64 x43) <|
   Chk1 (u_41.add 1) (.slice s44p s44l s44c) <|
   BIf b57 (
    LoadT (.int .u64) (b_40.add 0) fun x58 =>
    LoadT .slice (b_40.add 1) fun s59p s59l s59c =>
    LoadT (.int .u64) (n_42.add 0) fun x60 =>
    LoadT .slice (n_42.add 1) fun s61p s61l s61c =>
    CallT Go.Proofs.Try.prog 26 [.agg #[.int .u64 x58, .slice s59p s59l s59c], .agg #[.int .u64 x60, .slice s61p s61l s61c]] (.s (.one .bool)) fun b62 =>
    Chk1 (n_42.add 0) (.int .u64 x55) <|
    Chk1 (n_42.add 1) (.slice s56p s56l s56c) <|
    Chk1 (a_39.add 0) (.int .u64 x53) <|
    Chk1 (a_39.add 1) (.slice s54p s54l s54c) <|
    Chk1 (b_40.add 0) (.int .u64 x50) <|
    Chk1 (b_40.add 1) (.slice s51p s51l s51c) <|
    Chk1 (u_41.add 0) (.int .u64 x48) <|
    Chk1 (u_41.add 1) (.slice s49p s49l s49c) <|
    Chk1 (a_39.add 0) (.int .u64 x45) <|
    Chk1 (a_39.add 1) (.slice s46p s46l s46c) <|
    Chk1 (u_41.add 0) (.int .u64 x43) <|
    Chk1 (u_41.add 1) (.slice s44p s44l s44c) <|
    BIf b62 (
     LoadT (.int .u64) (u_41.add 0) fun x63 =>
     LoadT .slice (u_41.add 1) fun s64p s64l s64c =>
     LoadT (.int .u64) (a_39.add 0) fun x65 =>
     LoadT .slice (a_39.add 1) fun s66p s66l s66c =>
     CallT Go.Proofs.Try.prog 17 [.agg #[.int .u64 x63, .slice s64p s64l s64c], .int .u64 500] (.s (.agg [(.int .u64), .slice])) fun x67 s68p s68l s68c =>
     Chk1 (a_39.add 0) (.int .u64 x65) <|
     Chk1 (a_39.add 1) (.slice s66p s66l s66c) <|
     Chk1 (n_42.add 0) (.int .u64 x60) <|
     Chk1 (n_42.add 1) (.slice s61p s61l s61c) <|
     Chk1 (b_40.add 0) (.int .u64 x58) <|
     Chk1 (b_40.add 1) (.slice s59p s59l s59c) <|
     Chk1 (n_42.add 0) (.int .u64 x55) <|
     Chk1 (n_42.add 1) (.slice s56p s56l s56c) <|
     Chk1 (a_39.add 0) (.int .u64 x53) <|
     Chk1 (a_39.add 1) (.slice s54p s54l s54c) <|
     Chk1 (b_40.add 0) (.int .u64 x50) <|
     Chk1 (b_40.add 1) (.slice s51p s51l s51c) <|
     Chk1 (u_41.add 0) (.int .u64 x48) <|
     Chk1 (u_41.add 1) (.slice s49p s49l s49c) <|
     Chk1 (a_39.add 0) (.int .u64 x45) <|
     Chk1 (a_39.add 1) (.slice s46p s46l s46c) <|
     Chk1 (u_41.add 0) (.int .u64 x43) <|
     Chk1 (u_41.add 1) (.slice s44p s44l s44c) <|
     CallT Go.Proofs.Try.prog 27 [.agg #[.int .u64 x67, .slice s68p s68l s68c], .agg #[.int .u64 x65, .slice s66p s66l s66c]] (.s (.one .bool)) fun b69 =>
     Chk1 (u_41.add 0) (.int .u64 x63) <|
     Chk1 (u_41.add 1) (.slice s64p s64l s64c) <|
     Chk1 (n_42.add 0) (.int .u64 x60) <|
     Chk1 (n_42.add 1) (.slice s61p s61l s61c) <|
     Chk1 (b_40.add 0) (.int .u64 x58) <|
     Chk1 (b_40.add 1) (.slice s59p s59l s59c) <|
     Chk1 (n_42.add 0) (.int .u64 x55) <|
     Chk1 (n_42.add 1) (.slice s56p s56l s56c) <|
     Chk1 (a_39.add 0) (.int .u64 x53) <|
     Chk1 (a_39.add 1) (.slice s54p s54l s54c) <|
     Chk1 (b_40.add 0) (.int .u64 x50) <|
     Chk1 (b_40.add 1) (.slice s51p s51l s51c) <|
     Chk1 (u_41.add 0) (.int .u64 x48) <|
     Chk1 (u_41.add 1) (.slice s49p s49l s49c) <|
     Chk1 (a_39.add 0) (.int .u64 x45) <|
     Chk1 (a_39.add 1) (.slice s46p s46l s46c) <|
     Chk1 (u_41.add 0) (.int .u64 x43) <|
     Chk1 (u_41.add 1) (.slice s44p s44l s44c) <|
     BIf b69 (
      LoadT (.int .u64) (a_39.add 0) fun x70 =>
      LoadT .slice (a_39.add 1) fun s71p s71l s71c =>
      LoadT (.int .u64) (b_40.add 0) fun x72 =>
      LoadT .slice (b_40.add 1) fun s73p s73l s73c =>
      LoadT (.int .u64) (b_40.add 0) fun x74 =>
      LoadT .slice (b_40.add 1) fun s75p s75l s75c =>
      LoadT (.int .u64) (a_39.add 0) fun x76 =>
      LoadT .slice (a_39.add 1) fun s77p s77l s77c =>
      CallT Go.Proofs.Try.prog 26 [.agg #[.int .u64 x70, .slice s71p s71l s71c], .agg #[.int .u64 x72, .slice s73p s73l s73c]] (.s (.one .bool)) fun b78 =>
      Chk1 (a_39.add 0) (.int .u64 x76) <|
      Chk1 (a_39.add 1) (.slice s77p s77l s77c) <|
      Chk1 (b_40.add 0) (.int .u64 x74) <|
      Chk1 (b_40.add 1) (.slice s75p s75l s75c) <|
      Chk1 (a_39.add 0) (.int .u64 x65) <|
      Chk1 (a_39.add 1) (.slice s66p s66l s66c) <|
      Chk1 (u_41.add 0) (.int .u64 x63) <|
      Chk1 (u_41.add 1) (.slice s64p s64l s64c) <|
      Chk1 (n_42.add 0) (.int .u64 x60) <|
      Chk1 (n_42.add 1) (.slice s61p s61l s61c) <|
      Chk1 (b_40.add 0) (.int .u64 x58) <|
      Chk1 (b_40.add 1) (.slice s59p s59l s59c) <|
      Chk1 (n_42.add 0) (.int .u64 x55) <|
      Chk1 (n_42.add 1) (.slice s56p s56l s56c) <|
      Chk1 (a_39.add 0) (.int .u64 x53) <|
      Chk1 (a_39.add 1) (.slice s54p s54l s54c) <|
      Chk1 (b_40.add 0) (.int .u64 x50) <|
      Chk1 (b_40.add 1) (.slice s51p s51l s51c) <|
      Chk1 (u_41.add 0) (.int .u64 x48) <|
      Chk1 (u_41.add 1) (.slice s49p s49l s49c) <|
      Chk1 (a_39.add 0) (.int .u64 x45) <|
      Chk1 (a_39.add 1) (.slice s46p s46l s46c) <|
      Chk1 (u_41.add 0) (.int .u64 x43) <|
      Chk1 (u_41.add 1) (.slice s44p s44l s44c) <|
      CallT Go.Proofs.Try.prog 28 [.agg #[.int .u64 x74, .slice s75p s75l s75c], .agg #[.int .u64 x76, .slice s77p s77l s77c]] (.s (.one (.int .u64))) fun x79 =>
      Chk1 (b_40.add 0) (.int .u64 x72) <|
      Chk1 (b_40.add 1) (.slice s73p s73l s73c) <|
      Chk1 (a_39.add 0) (.int .u64 x70) <|
      Chk1 (a_39.add 1) (.slice s71p s71l s71c) <|
      Chk1 (a_39.add 0) (.int .u64 x65) <|
      Chk1 (a_39.add 1) (.slice s66p s66l s66c) <|
      Chk1 (u_41.add 0) (.int .u64 x63) <|
      Chk1 (u_41.add 1) (.slice s64p s64l s64c) <|
      Chk1 (n_42.add 0) (.int .u64 x60) <|
      Chk1 (n_42.add 1) (.slice s61p s61l s61c) <|
      Chk1 (b_40.add 0) (.int .u64 x58) <|
      Chk1 (b_40.add 1) (.slice s59p s59l s59c) <|
      Chk1 (n_42.add 0) (.int .u64 x55) <|
      Chk1 (n_42.add 1) (.slice s56p s56l s56c) <|
      Chk1 (a_39.add 0) (.int .u64 x53) <|
      Chk1 (a_39.add 1) (.slice s54p s54l s54c) <|
      Chk1 (b_40.add 0) (.int .u64 x50) <|
      Chk1 (b_40.add 1) (.slice s51p s51l s51c) <|
      Chk1 (u_41.add 0) (.int .u64 x48) <|
      Chk1 (u_41.add 1) (.slice s49p s49l s49c) <|
      Chk1 (a_39.add 0) (.int .u64 x45) <|
      Chk1 (a_39.add 1) (.slice s46p s46l s46c) <|
      Chk1 (u_41.add 0) (.int .u64 x43) <|
      Chk1 (u_41.add 1) (.slice s44p s44l s44c) <|
      k (.bool (b78 == (x79 == 0)))) (
      k (.bool false))) (
     k (.bool false))) (
    k (.bool false))) (
   k (.bool false))) (
  k (.bool false))
def F6_J1 (k : Value → W) (a_23 : Addr) (b_24 : Addr) : W :=
 Drw <|
 LoadT (.int .u64) (a_23.add 0) fun x25 =>
 LoadT .slice (a_23.add 1) fun s26p s26l s26c =>
 LoadT (.int .u64) (b_24.add 0) fun x27 =>
 LoadT .slice (b_24.add 1) fun s28p s28l s28c =>
 LoadT (.int .u64) (a_23.add 0) fun x29 =>
 LoadT .slice (a_23.add 1) fun s30p s30l s30c =>
 LoadT (.int .u64) (b_24.add 0) fun x31 =>
 LoadT .slice (b_24.add 1) fun s32p s32l s32c =>
 Both (
  CallT Go.Proofs.Try.prog 25 [.agg #[.int .u64 x25, .slice s26p s26l s26c], .agg #[.int .u64 x27, .slice s28p s28l s28c]] (.s (.agg [(.int .u64), .slice])) fun x33 s34p s34l s34c =>
  Chk1 (b_24.add 0) (.int .u64 x31) <|
  Chk1 (b_24.add 1) (.slice s32p s32l s32c) <|
  Chk1 (a_23.add 0) (.int .u64 x29) <|
  Chk1 (a_23.add 1) (.slice s30p s30l s30c) <|
  Both (
   CallT Go.Proofs.Try.prog 20 [.agg #[.int .u64 x29, .slice s30p s30l s30c], .agg #[.int .u64 x31, .slice s32p s32l s32c]] (.s (.agg [(.int .u64), .slice])) fun x35 s36p s36l s36c =>
   Chk1 (b_24.add 0) (.int .u64 x27) <|
   Chk1 (b_24.add 1) (.slice s28p s28l s28c) <|
   Chk1 (a_23.add 0) (.int .u64 x25) <|
   Chk1 (a_23.add 1) (.slice s26p s26l s26c) <|
   Both (
    New [.int .u64 0, .slice none 0 0] 25 fun n37 =>
    Chk1 (b_24.add 0) (.int .u64 x31) <|
    Chk1 (b_24.add 1) (.slice s32p s32l s32c) <|
    Chk1 (a_23.add 0) (.int .u64 x29) <|
    Chk1 (a_23.add 1) (.slice s30p s30l s30c) <|
    Chk1 (b_24.add 0) (.int .u64 x27) <|
    Chk1 (b_24.add 1) (.slice s28p s28l s28c) <|
    Chk1 (a_23.add 0) (.int .u64 x25) <|
    Chk1 (a_23.add 1) (.slice s26p s26l s26c) <|
    New [.int .u64 0, .slice none 0 0] 25 fun n38 =>
    Chk1 (b_24.add 0) (.int .u64 x31) <|
    Chk1 (b_24.add 1) (.slice s32p s32l s32c) <|
    Chk1 (a_23.add 0) (.int .u64 x29) <|
    Chk1 (a_23.add 1) (.slice s30p s30l s30c) <|
    Chk1 (b_24.add 0) (.int .u64 x27) <|
    Chk1 (b_24.add 1) (.slice s28p s28l s28c) <|
    Chk1 (a_23.add 0) (.int .u64 x25) <|
    Chk1 (a_23.add 1) (.slice s26p s26l s26c) <|
    Store1 ⟨n37, 0, none⟩ (.int .u64 x33) <|
    Store1 ⟨n37, 1, none⟩ (.slice s34p s34l s34c) <|
    Chk1 (b_24.add 0) (.int .u64 x31) <|
    Chk1 (b_24.add 1) (.slice s32p s32l s32c) <|
    Chk1 (a_23.add 0) (.int .u64 x29) <|
    Chk1 (a_23.add 1) (.slice s30p s30l s30c) <|
    Store1 ⟨n38, 0, none⟩ (.int .u64 x35) <|
    Store1 ⟨n38, 1, none⟩ (.slice s36p s36l s36c) <|
    F6_J2 k a_23 b_24 ⟨n37, 0, none⟩ ⟨n38, 0, none⟩) (
    New [.int .u64 0, .slice none 0 0] 25 fun n80 =>
    Chk1 (b_24.add 0) (.int .u64 x31) <|
    Chk1 (b_24.add 1) (.slice s32p s32l s32c) <|
    Chk1 (a_23.add 0) (.int .u64 x29) <|
    Chk1 (a_23.add 1) (.slice s30p s30l s30c) <|
    Chk1 (b_24.add 0) (.int .u64 x27) <|
    Chk1 (b_24.add 1) (.slice s28p s28l s28c) <|
    Chk1 (a_23.add 0) (.int .u64 x25) <|
    Chk1 (a_23.add 1) (.slice s26p s26l s26c) <|
    New [.int .u64 0, .slice none 0 0] 25 fun n81 =>
    Chk1 (b_24.add 0) (.int .u64 x31) <|
    Chk1 (b_24.add 1) (.slice s32p s32l s32c) <|
    Chk1 (a_23.add 0) (.int .u64 x29) <|
    Chk1 (a_23.add 1) (.slice s30p s30l s30c) <|
    Chk1 (b_24.add 0) (.int .u64 x27) <|
    Chk1 (b_24.add 1) (.slice s28p s28l s28c) <|
    Chk1 (a_23.add 0) (.int .u64 x25) <|
    Chk1 (a_23.add 1) (.slice s26p s26l s26c) <|
    Store1 ⟨n81, 0, none⟩ (.int .u64 x33) <|
    Store1 ⟨n81, 1, none⟩ (.slice s34p s34l s34c) <|
    Chk1 (b_24.add 0) (.int .u64 x31) <|
    Chk1 (b_24.add 1) (.slice s32p s32l s32c) <|
    Chk1 (a_23.add 0) (.int .u64 x29) <|
    Chk1 (a_23.add 1) (.slice s30p s30l s30c) <|
    Store1 ⟨n80, 0, none⟩ (.int .u64 x35) <|
    Store1 ⟨n80, 1, none⟩ (.slice s36p s36l s36c) <|
    F6_J2 k a_23 b_24 ⟨n81, 0, none⟩ ⟨n80, 0, none⟩)) (
   Both (
    New [.int .u64 0, .slice none 0 0] 25 fun n82 =>
    Chk1 (b_24.add 0) (.int .u64 x31) <|
    Chk1 (b_24.add 1) (.slice s32p s32l s32c) <|
    Chk1 (a_23.add 0) (.int .u64 x29) <|
    Chk1 (a_23.add 1) (.slice s30p s30l s30c) <|
    Chk1 (b_24.add 0) (.int .u64 x27) <|
    Chk1 (b_24.add 1) (.slice s28p s28l s28c) <|
    Chk1 (a_23.add 0) (.int .u64 x25) <|
    Chk1 (a_23.add 1) (.slice s26p s26l s26c) <|
    Both (
     CallT Go.Proofs.Try.prog 20 [.agg #[.int .u64 x29, .slice s30p s30l s30c], .agg #[.int .u64 x31, .slice s32p s32l s32c]] (.s (.agg [(.int .u64), .slice])) fun x83 s84p s84l s84c =>
     Chk1 (b_24.add 0) (.int .u64 x27) <|
     Chk1 (b_24.add 1) (.slice s28p s28l s28c) <|
     Chk1 (a_23.add 0) (.int .u64 x25) <|
     Chk1 (a_23.add 1) (.slice s26p s26l s26c) <|
     New [.int .u64 0, .slice none 0 0] 25 fun n85 =>
     Chk1 (b_24.add 0) (.int .u64 x31) <|
     Chk1 (b_24.add 1) (.slice s32p s32l s32c) <|
     Chk1 (a_23.add 0) (.int .u64 x29) <|
     Chk1 (a_23.add 1) (.slice s30p s30l s30c) <|
     Chk1 (b_24.add 0) (.int .u64 x27) <|
     Chk1 (b_24.add 1) (.slice s28p s28l s28c) <|
     Chk1 (a_23.add 0) (.int .u64 x25) <|
     Chk1 (a_23.add 1) (.slice s26p s26l s26c) <|
     Store1 ⟨n82, 0, none⟩ (.int .u64 x33) <|
     Store1 ⟨n82, 1, none⟩ (.slice s34p s34l s34c) <|
     Chk1 (b_24.add 0) (.int .u64 x31) <|
     Chk1 (b_24.add 1) (.slice s32p s32l s32c) <|
     Chk1 (a_23.add 0) (.int .u64 x29) <|
     Chk1 (a_23.add 1) (.slice s30p s30l s30c) <|
     Store1 ⟨n85, 0, none⟩ (.int .u64 x83) <|
     Store1 ⟨n85, 1, none⟩ (.slice s84p s84l s84c) <|
     F6_J2 k a_23 b_24 ⟨n82, 0, none⟩ ⟨n85, 0, none⟩) (
     New [.int .u64 0, .slice none 0 0] 25 fun n86 =>
     Chk1 (b_24.add 0) (.int .u64 x31) <|
     Chk1 (b_24.add 1) (.slice s32p s32l s32c) <|
     Chk1 (a_23.add 0) (.int .u64 x29) <|
     Chk1 (a_23.add 1) (.slice s30p s30l s30c) <|
     Chk1 (b_24.add 0) (.int .u64 x27) <|
     Chk1 (b_24.add 1) (.slice s28p s28l s28c) <|
     Chk1 (a_23.add 0) (.int .u64 x25) <|
     Chk1 (a_23.add 1) (.slice s26p s26l s26c) <|
     CallT Go.Proofs.Try.prog 20 [.agg #[.int .u64 x29, .slice s30p s30l s30c], .agg #[.int .u64 x31, .slice s32p s32l s32c]] (.s (.agg [(.int .u64), .slice])) fun x87 s88p s88l s88c =>
     Chk1 (b_24.add 0) (.int .u64 x27) <|
     Chk1 (b_24.add 1) (.slice s28p s28l s28c) <|
     Chk1 (a_23.add 0) (.int .u64 x25) <|
     Chk1 (a_23.add 1) (.slice s26p s26l s26c) <|
     Store1 ⟨n82, 0, none⟩ (.int .u64 x33) <|
     Store1 ⟨n82, 1, none⟩ (.slice s34p s34l s34c) <|
     Chk1 (b_24.add 0) (.int .u64 x31) <|
     Chk1 (b_24.add 1) (.slice s32p s32l s32c) <|
     Chk1 (a_23.add 0) (.int .u64 x29) <|
     Chk1 (a_23.add 1) (.slice s30p s30l s30c) <|
     Store1 ⟨n86, 0, none⟩ (.int .u64 x87) <|
     Store1 ⟨n86, 1, none⟩ (.slice s88p s88l s88c) <|
     F6_J2 k a_23 b_24 ⟨n82, 0, none⟩ ⟨n86, 0, none⟩)) (
    New [.int .u64 0, .slice none 0 0] 25 fun n89 =>
    Chk1 (b_24.add 0) (.int .u64 x31) <|
    Chk1 (b_24.add 1) (.slice s32p s32l s32c) <|
    Chk1 (a_23.add 0) (.int .u64 x29) <|
    Chk1 (a_23.add 1) (.slice s30p s30l s30c) <|
    Chk1 (b_24.add 0) (.int .u64 x27) <|
    Chk1 (b_24.add 1) (.slice s28p s28l s28c) <|
    Chk1 (a_23.add 0) (.int .u64 x25) <|
    Chk1 (a_23.add 1) (.slice s26p s26l s26c) <|
    Both (
     CallT Go.Proofs.Try.prog 20 [.agg #[.int .u64 x29, .slice s30p s30l s30c], .agg #[.int .u64 x31, .slice s32p s32l s32c]] (.s (.agg [(.int .u64), .slice])) fun x90 s91p s91l s91c =>
     Chk1 (b_24.add 0) (.int .u64 x27) <|
     Chk1 (b_24.add 1) (.slice s28p s28l s28c) <|
     Chk1 (a_23.add 0) (.int .u64 x25) <|
     Chk1 (a_23.add 1) (.slice s26p s26l s26c) <|
     New [.int .u64 0, .slice none 0 0] 25 fun n92 =>
     Chk1 (b_24.add 0) (.int .u64 x31) <|
     Chk1 (b_24.add 1) (.slice s32p s32l s32c) <|
     Chk1 (a_23.add 0) (.int .u64 x29) <|
     Chk1 (a_23.add 1) (.slice s30p s30l s30c) <|
     Chk1 (b_24.add 0) (.int .u64 x27) <|
     Chk1 (b_24.add 1) (.slice s28p s28l s28c) <|
     Chk1 (a_23.add 0) (.int .u64 x25) <|
     Chk1 (a_23.add 1) (.slice s26p s26l s26c) <|
     Store1 ⟨n92, 0, none⟩ (.int .u64 x33) <|
     Store1 ⟨n92, 1, none⟩ (.slice s34p s34l s34c) <|
     Chk1 (b_24.add 0) (.int .u64 x31) <|
     Chk1 (b_24.add 1) (.slice s32p s32l s32c) <|
     Chk1 (a_23.add 0) (.int .u64 x29) <|
     Chk1 (a_23.add 1) (.slice s30p s30l s30c) <|
     Store1 ⟨n89, 0, none⟩ (.int .u64 x90) <|
     Store1 ⟨n89, 1, none⟩ (.slice s91p s91l s91c) <|
     F6_J2 k a_23 b_24 ⟨n92, 0, none⟩ ⟨n89, 0, none⟩) (
     New [.int .u64 0, .slice none 0 0] 25 fun n93 =>
     Chk1 (b_24.add 0) (.int .u64 x31) <|
     Chk1 (b_24.add 1) (.slice s32p s32l s32c) <|
     Chk1 (a_23.add 0) (.int .u64 x29) <|
     Chk1 (a_23.add 1) (.slice s30p s30l s30c) <|
     Chk1 (b_24.add 0) (.int .u64 x27) <|
     Chk1 (b_24.add 1) (.slice s28p s28l s28c) <|
     Chk1 (a_23.add 0) (.int .u64 x25) <|
     Chk1 (a_23.add 1) (.slice s26p s26l s26c) <|
     CallT Go.Proofs.Try.prog 20 [.agg #[.int .u64 x29, .slice s30p s30l s30c], .agg #[.int .u64 x31, .slice s32p s32l s32c]] (.s (.agg [(.int .u64), .slice])) fun x94 s95p s95l s95c =>
     Chk1 (b_24.add 0) (.int .u64 x27) <|
     Chk1 (b_24.add 1) (.slice s28p s28l s28c) <|
     Chk1 (a_23.add 0) (.int .u64 x25) <|
     Chk1 (a_23.add 1) (.slice s26p s26l s26c) <|
     Store1 ⟨n93, 0, none⟩ (.int .u64 x33) <|
     Store1 ⟨n93, 1, none⟩ (.slice s34p s34l s34c) <|
     Chk1 (b_24.add 0) (.int .u64 x31) <|
     Chk1 (b_24.add 1) (.slice s32p s32l s32c) <|
     Chk1 (a_23.add 0) (.int .u64 x29) <|
     Chk1 (a_23.add 1) (.slice s30p s30l s30c) <|
     Store1 ⟨n89, 0, none⟩ (.int .u64 x94) <|
     Store1 ⟨n89, 1, none⟩ (.slice s95p s95l s95c) <|
     F6_J2 k a_23 b_24 ⟨n93, 0, none⟩ ⟨n89, 0, none⟩)))) (
  Both (
   New [.int .u64 0, .slice none 0 0] 25 fun n96 =>
   Chk1 (b_24.add 0) (.int .u64 x31) <|
   Chk1 (b_24.add 1) (.slice s32p s32l s32c) <|
   Chk1 (a_23.add 0) (.int .u64 x29) <|
   Chk1 (a_23.add 1) (.slice s30p s30l s30c) <|
   Chk1 (b_24.add 0) (.int .u64 x27) <|
   Chk1 (b_24.add 1) (.slice s28p s28l s28c) <|
   Chk1 (a_23.add 0) (.int .u64 x25) <|
   Chk1 (a_23.add 1) (.slice s26p s26l s26c) <|
   Both (
    CallT Go.Proofs.Try.prog 25 [.agg #[.int .u64 x25, .slice s26p s26l s26c], .agg #[.int .u64 x27, .slice s28p s28l s28c]] (.s (.agg [(.int .u64), .slice])) fun x97 s98p s98l s98c =>
    Chk1 (b_24.add 0) (.int .u64 x31) <|
    Chk1 (b_24.add 1) (.slice s32p s32l s32c) <|
    Chk1 (a_23.add 0) (.int .u64 x29) <|
    Chk1 (a_23.add 1) (.slice s30p s30l s30c) <|
    Both (
     CallT Go.Proofs.Try.prog 20 [.agg #[.int .u64 x29, .slice s30p s30l s30c], .agg #[.int .u64 x31, .slice s32p s32l s32c]] (.s (.agg [(.int .u64), .slice])) fun x99 s100p s100l s100c =>
     Chk1 (b_24.add 0) (.int .u64 x27) <|
     Chk1 (b_24.add 1) (.slice s28p s28l s28c) <|
     Chk1 (a_23.add 0) (.int .u64 x25) <|
     Chk1 (a_23.add 1) (.slice s26p s26l s26c) <|
     New [.int .u64 0, .slice none 0 0] 25 fun n101 =>
     Chk1 (b_24.add 0) (.int .u64 x31) <|
     Chk1 (b_24.add 1) (.slice s32p s32l s32c) <|
     Chk1 (a_23.add 0) (.int .u64 x29) <|
     Chk1 (a_23.add 1) (.slice s30p s30l s30c) <|
     Chk1 (b_24.add 0) (.int .u64 x27) <|
     Chk1 (b_24.add 1) (.slice s28p s28l s28c) <|
     Chk1 (a_23.add 0) (.int .u64 x25) <|
     Chk1 (a_23.add 1) (.slice s26p s26l s26c) <|
     Store1 ⟨n96, 0, none⟩ (.int .u64 x97) <|
     Store1 ⟨n96, 1, none⟩ (.slice s98p s98l s98c) <|
     Chk1 (b_24.add 0) (.int .u64 x31) <|
     Chk1 (b_24.add 1) (.slice s32p s32l s32c) <|
     Chk1 (a_23.add 0) (.int .u64 x29) <|
     Chk1 (a_23.add 1) (.slice s30p s30l s30c) <|
     Store1 ⟨n101, 0, none⟩ (.int .u64 x99) <|
     Store1 ⟨n101, 1, none⟩ (.slice s100p s100l s100c) <|
     F6_J2 k a_23 b_24 ⟨n96, 0, none⟩ ⟨n101, 0, none⟩) (
     New [.int .u64 0, .slice none 0 0] 25 fun n102 =>
     Chk1 (b_24.add 0) (.int .u64 x31) <|
     Chk1 (b_24.add 1) (.slice s32p s32l s32c) <|
     Chk1 (a_23.add 0) (.int .u64 x29) <|
     Chk1 (a_23.add 1) (.slice s30p s30l s30c) <|
     Chk1 (b_24.add 0) (.int .u64 x27) <|
     Chk1 (b_24.add 1) (.slice s28p s28l s28c) <|
     Chk1 (a_23.add 0) (.int .u64 x25) <|
     Chk1 (a_23.add 1) (.slice s26p s26l s26c) <|
     CallT Go.Proofs.Try.prog 20 [.agg #[.int .u64 x29, .slice s30p s30l s30c], .agg #[.int .u64 x31, .slice s32p s32l s32c]] (.s (.agg [(.int .u64), .slice])) fun x103 s104p s104l s104c =>
     Chk1 (b_24.add 0) (.int .u64 x27) <|
     Chk1 (b_24.add 1) (.slice s28p s28l s28c) <|
     Chk1 (a_23.add 0) (.int .u64 x25) <|
     Chk1 (a_23.add 1) (.slice s26p s26l s26c) <|
     Store1 ⟨n96, 0, none⟩ (.int .u64 x97) <|
     Store1 ⟨n96, 1, none⟩ (.slice s98p s98l s98c) <|
     Chk1 (b_24.add 0) (.int .u64 x31) <|
     Chk1 (b_24.add 1) (.slice s32p s32l s32c) <|
     Chk1 (a_23.add 0) (.int .u64 x29) <|
     Chk1 (a_23.add 1) (.slice s30p s30l s30c) <|
     Store1 ⟨n102, 0, none⟩ (.int .u64 x103) <|
     Store1 ⟨n102, 1, none⟩ (.slice s104p s104l s104c) <|
     F6_J2 k a_23 b_24 ⟨n96, 0, none⟩ ⟨n102, 0, none⟩)) (
    New [.int .u64 0, .slice none 0 0] 25 fun n105 =>
    Chk1 (b_24.add 0) (.int .u64 x31) <|
    Chk1 (b_24.add 1) (.slice s32p s32l s32c) <|
    Chk1 (a_23.add 0) (.int .u64 x29) <|
    Chk1 (a_23.add 1) (.slice s30p s30l s30c) <|
    Chk1 (b_24.add 0) (.int .u64 x27) <|
    Chk1 (b_24.add 1) (.slice s28p s28l s28c) <|
    Chk1 (a_23.add 0) (.int .u64 x25) <|
    Chk1 (a_23.add 1) (.slice s26p s26l s26c) <|
    CallT Go.Proofs.Try.prog 25 [.agg #[.int .u64 x25, .slice s26p s26l s26c], .agg #[.int .u64 x27, .slice s28p s28l s28c]] (.s (.agg [(.int .u64), .slice])) fun x106 s107p s107l s107c =>
    Chk1 (b_24.add 0) (.int .u64 x31) <|
    Chk1 (b_24.add 1) (.slice s32p s32l s32c) <|
    Chk1 (a_23.add 0) (.int .u64 x29) <|
    Chk1 (a_23.add 1) (.slice s30p s30l s30c) <|
    CallT Go.Proofs.Try.prog 20 [.agg #[.int .u64 x29, .slice s30p s30l s30c], .agg #[.int .u64 x31, .slice s32p s32l s32c]] (.s (.agg [(.int .u64), .slice])) fun x108 s109p s109l s109c =>
    Chk1 (b_24.add 0) (.int .u64 x27) <|
    Chk1 (b_24.add 1) (.slice s28p s28l s28c) <|
    Chk1 (a_23.add 0) (.int .u64 x25) <|
    Chk1 (a_23.add 1) (.slice s26p s26l s26c) <|
    Store1 ⟨n96, 0, none⟩ (.int .u64 x106) <|
    Store1 ⟨n96, 1, none⟩ (.slice s107p s107l s107c) <|
    Chk1 (b_24.add 0) (.int .u64 x31) <|
    Chk1 (b_24.add 1) (.slice s32p s32l s32c) <|
    Chk1 (a_23.add 0) (.int .u64 x29) <|
    Chk1 (a_23.add 1) (.slice s30p s30l s30c) <|
    Store1 ⟨n105, 0, none⟩ (.int .u64 x108) <|
    Store1 ⟨n105, 1, none⟩ (.slice s109p s109l s109c) <|
    F6_J2 k a_23 b_24 ⟨n96, 0, none⟩ ⟨n105, 0, none⟩)) (
   New [.int .u64 0, .slice none 0 0] 25 fun n110 =>
   Chk1 (b_24.add 0) (.int .u64 x31) <|
   Chk1 (b_24.add 1) (.slice s32p s32l s32c) <|
   Chk1 (a_23.add 0) (.int .u64 x29) <|
   Chk1 (a_23.add 1) (.slice s30p s30l s30c) <|
   Chk1 (b_24.add 0) (.int .u64 x27) <|
   Chk1 (b_24.add 1) (.slice s28p s28l s28c) <|
   Chk1 (a_23.add 0) (.int .u64 x25) <|
   Chk1 (a_23.add 1) (.slice s26p s26l s26c) <|
   Both (
    CallT Go.Proofs.Try.prog 25 [.agg #[.int .u64 x25, .slice s26p s26l s26c], .agg #[.int .u64 x27, .slice s28p s28l s28c]] (.s (.agg [(.int .u64), .slice])) fun x111 s112p s112l s112c =>
    Chk1 (b_24.add 0) (.int .u64 x31) <|
    Chk1 (b_24.add 1) (.slice s32p s32l s32c) <|
    Chk1 (a_23.add 0) (.int .u64 x29) <|
    Chk1 (a_23.add 1) (.slice s30p s30l s30c) <|
    Both (
     CallT Go.Proofs.Try.prog 20 [.agg #[.int .u64 x29, .slice s30p s30l s30c], .agg #[.int .u64 x31, .slice s32p s32l s32c]] (.s (.agg [(.int .u64), .slice])) fun x113 s114p s114l s114c =>
     Chk1 (b_24.add 0) (.int .u64 x27) <|
     Chk1 (b_24.add 1) (.slice s28p s28l s28c) <|
     Chk1 (a_23.add 0) (.int .u64 x25) <|
     Chk1 (a_23.add 1) (.slice s26p s26l s26c) <|
     New [.int .u64 0, .slice none 0 0] 25 fun n115 =>
     Chk1 (b_24.add 0) (.int .u64 x31) <|
     Chk1 (b_24.add 1) (.slice s32p s32l s32c) <|
     Chk1 (a_23.add 0) (.int .u64 x29) <|
     Chk1 (a_23.add 1) (.slice s30p s30l s30c) <|
     Chk1 (b_24.add 0) (.int .u64 x27) <|
     Chk1 (b_24.add 1) (.slice s28p s28l s28c) <|
     Chk1 (a_23.add 0) (.int .u64 x25) <|
     Chk1 (a_23.add 1) (.slice s26p s26l s26c) <|
     Store1 ⟨n115, 0, none⟩ (.int .u64 x111) <|
     Store1 ⟨n115, 1, none⟩ (.slice s112p s112l s112c) <|
     Chk1 (b_24.add 0) (.int .u64 x31) <|
     Chk1 (b_24.add 1) (.slice s32p s32l s32c) <|
     Chk1 (a_23.add 0) (.int .u64 x29) <|
     Chk1 (a_23.add 1) (.slice s30p s30l s30c) <|
     Store1 ⟨n110, 0, none⟩ (.int .u64 x113) <|
     Store1 ⟨n110, 1, none⟩ (.slice s114p s114l s114c) <|
     F6_J2 k a_23 b_24 ⟨n115, 0, none⟩ ⟨n110, 0, none⟩) (
     New [.int .u64 0, .slice none 0 0] 25 fun n116 =>
     Chk1 (b_24.add 0) (.int .u64 x31) <|
     Chk1 (b_24.add 1) (.slice s32p s32l s32c) <|
     Chk1 (a_23.add 0) (.int .u64 x29) <|
     Chk1 (a_23.add 1) (.slice s30p s30l s30c) <|
     Chk1 (b_24.add 0) (.int .u64 x27) <|
     Chk1 (b_24.add 1) (.slice s28p s28l s28c) <|
     Chk1 (a_23.add 0) (.int .u64 x25) <|
     Chk1 (a_23.add 1) (.slice s26p s26l s26c) <|
     CallT Go.Proofs.Try.prog 20 [.agg #[.int .u64 x29, .slice s30p s30l s30c], .agg #[.int .u64 x31, .slice s32p s32l s32c]] (.s (.agg [(.int .u64), .slice])) fun x117 s118p s118l s118c =>
     Chk1 (b_24.add 0) (.int .u64 x27) <|
     Chk1 (b_24.add 1) (.slice s28p s28l s28c) <|
     Chk1 (a_23.add 0) (.int .u64 x25) <|
     Chk1 (a_23.add 1) (.slice s26p s26l s26c) <|
     Store1 ⟨n116, 0, none⟩ (.int .u64 x111) <|
     Store1 ⟨n116, 1, none⟩ (.slice s112p s112l s112c) <|
     Chk1 (b_24.add 0) (.int .u64 x31) <|
     Chk1 (b_24.add 1) (.slice s32p s32l s32c) <|
     Chk1 (a_23.add 0) (.int .u64 x29) <|
     Chk1 (a_23.add 1) (.slice s30p s30l s30c) <|
     Store1 ⟨n110, 0, none⟩ (.int .u64 x117) <|
     Store1 ⟨n110, 1, none⟩ (.slice s118p s118l s118c) <|
     F6_J2 k a_23 b_24 ⟨n116, 0, none⟩ ⟨n110, 0, none⟩)) (
    New [.int .u64 0, .slice none 0 0] 25 fun n119 =>
    Chk1 (b_24.add 0) (.int .u64 x31) <|
    Chk1 (b_24.add 1) (.slice s32p s32l s32c) <|
    Chk1 (a_23.add 0) (.int .u64 x29) <|
    Chk1 (a_23.add 1) (.slice s30p s30l s30c) <|
    Chk1 (b_24.add 0) (.int .u64 x27) <|
    Chk1 (b_24.add 1) (.slice s28p s28l s28c) <|
    Chk1 (a_23.add 0) (.int .u64 x25) <|
    Chk1 (a_23.add 1) (.slice s26p s26l s26c) <|
    CallT Go.Proofs.Try.prog 25 [.agg #[.int .u64 x25, .slice s26p s26l s26c], .agg #[.int .u64 x27, .slice s28p s28l s28c]] (.s (.agg [(.int .u64), .slice])) fun x120 s121p s121l s121c =>
    Chk1 (b_24.add 0) (.int .u64 x31) <|
    Chk1 (b_24.add 1) (.slice s32p s32l s32c) <|
    Chk1 (a_23.add 0) (.int .u64 x29) <|
    Chk1 (a_23.add 1) (.slice s30p s30l s30c) <|
    CallT Go.Proofs.Try.prog 20 [.agg #[.int .u64 x29, .slice s30p s30l s30c], .agg #[.int .u64 x31, .slice s32p s32l s32c]] (.s (.agg [(.int .u64), .slice])) fun x122 s123p s123l s123c =>
    Chk1 (b_24.add 0) (.int .u64 x27) <|
    Chk1 (b_24.add 1) (.slice s28p s28l s28c) <|
    Chk1 (a_23.add 0) (.int .u64 x25) <|
    Chk1 (a_23.add 1) (.slice s26p s26l s26c) <|
    Store1 ⟨n119, 0, none⟩ (.int .u64 x120) <|
    Store1 ⟨n119, 1, none⟩ (.slice s121p s121l s121c) <|
    Chk1 (b_24.add 0) (.int .u64 x31) <|
    Chk1 (b_24.add 1) (.slice s32p s32l s32c) <|
    Chk1 (a_23.add 0) (.int .u64 x29) <|
    Chk1 (a_23.add 1) (.slice s30p s30l s30c) <|
    Store1 ⟨n110, 0, none⟩ (.int .u64 x122) <|
    Store1 ⟨n110, 1, none⟩ (.slice s123p s123l s123c) <|
    F6_J2 k a_23 b_24 ⟨n119, 0, none⟩ ⟨n110, 0, none⟩)))
def F6 (k : Value → W) (x1 : Int) (s2p : Option Addr) (s2l : Nat) (s2c : Nat) (x3 : Int) (s4p : Option Addr) (s4l : Nat) (s4c : Nat) : W :=
 New [.int .u64 x1, .slice s2p s2l s2c] 25 fun n5 =>
 New [.int .u64 x3, .slice s4p s4l s4c] 25 fun n6 =>
 LoadT (.int .u64) ⟨n5, 0, none⟩ fun x7 =>
 LoadT .slice ⟨n5, 1, none⟩ fun s8p s8l s8c =>
 CallT Go.Proofs.Try.prog 12 [.agg #[.int .u64 x7, .slice s8p s8l s8c]] (.s (.one .bool)) fun b9 =>
 BIf (!b9) (
  k (.bool true)) (
  LoadT (.int .u64) ⟨n6, 0, none⟩ fun x10 =>
  LoadT .slice ⟨n6, 1, none⟩ fun s11p s11l s11c =>
  CallT Go.Proofs.Try.prog 12 [.agg #[.int .u64 x10, .slice s11p s11l s11c]] (.s (.one .bool)) fun b12 =>
  BIf (!b12) (
   k (.bool true)) (
   Drw <|
   LoadT (.int .u64) ⟨n5, 0, none⟩ fun x13 =>
   LoadT .slice ⟨n5, 1, none⟩ fun s14p s14l s14c =>
   LoadT (.int .u64) ⟨n6, 0, none⟩ fun x15 =>
   LoadT .slice ⟨n6, 1, none⟩ fun s16p s16l s16c =>
   Both (
    CallT Go.Proofs.Try.prog 13 [.agg #[.int .u64 x13, .slice s14p s14l s14c]] (.s (.agg [(.int .u64), .slice])) fun x17 s18p s18l s18c =>
    Chk1 ⟨n6, 0, none⟩ (.int .u64 x15) <|
    Chk1 ⟨n6, 1, none⟩ (.slice s16p s16l s16c) <|
    Both (
     CallT Go.Proofs.Try.prog 13 [.agg #[.int .u64 x15, .slice s16p s16l s16c]] (.s (.agg [(.int .u64), .slice])) fun x19 s20p s20l s20c =>
     Chk1 ⟨n5, 0, none⟩ (.int .u64 x13) <|
     Chk1 ⟨n5, 1, none⟩ (.slice s14p s14l s14c) <|
     Both (
      New [.int .u64 0, .slice none 0 0] 25 fun n21 =>
      Chk1 ⟨n6, 0, none⟩ (.int .u64 x15) <|
      Chk1 ⟨n6, 1, none⟩ (.slice s16p s16l s16c) <|
      Chk1 ⟨n5, 0, none⟩ (.int .u64 x13) <|
      Chk1 ⟨n5, 1, none⟩ (.slice s14p s14l s14c) <|
      New [.int .u64 0, .slice none 0 0] 25 fun n22 =>
      Chk1 ⟨n6, 0, none⟩ (.int .u64 x15) <|
      Chk1 ⟨n6, 1, none⟩ (.slice s16p s16l s16c) <|
      Chk1 ⟨n5, 0, none⟩ (.int .u64 x13) <|
      Chk1 ⟨n5, 1, none⟩ (.slice s14p s14l s14c) <|
      Store1 ⟨n21, 0, none⟩ (.int .u64 x17) <|
      Store1 ⟨n21, 1, none⟩ (.slice s18p s18l s18c) <|
      Chk1 ⟨n6, 0, none⟩ (.int .u64 x15) <|
      Chk1 ⟨n6, 1, none⟩ (.slice s16p s16l s16c) <|
      Store1 ⟨n22, 0, none⟩ (.int .u64 x19) <|
      Store1 ⟨n22, 1, none⟩ (.slice s20p s20l s20c) <|
      F6_J1 k ⟨n21, 0, none⟩ ⟨n22, 0, none⟩) (
      New [.int .u64 0, .slice none 0 0] 25 fun n124 =>
      Chk1 ⟨n6, 0, none⟩ (.int .u64 x15) <|
      Chk1 ⟨n6, 1, none⟩ (.slice s16p s16l s16c) <|
      Chk1 ⟨n5, 0, none⟩ (.int .u64 x13) <|
      Chk1 ⟨n5, 1, none⟩ (.slice s14p s14l s14c) <|
      New [.int .u64 0, .slice none 0 0] 25 fun n125 =>
      Chk1 ⟨n6, 0, none⟩ (.int .u64 x15) <|
      Chk1 ⟨n6, 1, none⟩ (.slice s16p s16l s16c) <|
      Chk1 ⟨n5, 0, none⟩ (.int .u64 x13) <|
      Chk1 ⟨n5, 1, none⟩ (.slice s14p s14l s14c) <|
      Store1 ⟨n125, 0, none⟩ (.int .u64 x17) <|
      Store1 ⟨n125, 1, none⟩ (.slice s18p s18l s18c) <|
      Chk1 ⟨n6, 0, none⟩ (.int .u64 x15) <|
      Chk1 ⟨n6, 1, none⟩ (.slice s16p s16l s16c) <|
      Store1 ⟨n124, 0, none⟩ (.int .u64 x19) <|
      Store1 ⟨n124, 1, none⟩ (.slice s20p s20l s20c) <|
      F6_J1 k ⟨n125, 0, none⟩ ⟨n124, 0, none⟩)) (
     Both (
      New [.int .u64 0, .slice none 0 0] 25 fun n126 =>
      Chk1 ⟨n6, 0, none⟩ (.int .u64 x15) <|
      Chk1 ⟨n6, 1, none⟩ (.slice s16p s16l s16c) <|
      Chk1 ⟨n5, 0, none⟩ (.int .u64 x13) <|
      Chk1 ⟨n5, 1, none⟩ (.slice s14p s14l s14c) <|
      Both (
       CallT Go.Proofs.Try.prog 13 [.agg #[.int .u64 x15, .slice s16p s16l s16c]] (.s (.agg [(.int .u64), .slice])) fun x127 s128p s128l s128c =>
       Chk1 ⟨n5, 0, none⟩ (.int .u64 x13) <|
       Chk1 ⟨n5, 1, none⟩ (.slice s14p s14l s14c) <|
       New [.int .u64 0, .slice none 0 0] 25 fun n129 =>
       Chk1 ⟨n6, 0, none⟩ (.int .u64 x15) <|
       Chk1 ⟨n6, 1, none⟩ (.slice s16p s16l s16c) <|
       Chk1 ⟨n5, 0, none⟩ (.int .u64 x13) <|
       Chk1 ⟨n5, 1, none⟩ (.slice s14p s14l s14c) <|
       Store1 ⟨n126, 0, none⟩ (.int .u64 x17) <|
       Store1 ⟨n126, 1, none⟩ (.slice s18p s18l s18c) <|
       Chk1 ⟨n6, 0, none⟩ (.int .u64 x15) <|
       Chk1 ⟨n6, 1, none⟩ (.slice s16p s16l s16c) <|
       Store1 ⟨n129, 0, none⟩ (.int .u64 x127) <|
       Store1 ⟨n129, 1, none⟩ (.slice s128p s128l s128c) <|
       F6_J1 k ⟨n126, 0, none⟩ ⟨n129, 0, none⟩) (
       New [.int .u64 0, .slice none 0 0] 25 fun n130 =>
       Chk1 ⟨n6, 0, none⟩ (.int .u64 x15) <|
       Chk1 ⟨n6, 1, none⟩ (.slice s16p s16l s16c) <|
       Chk1 ⟨n5, 0, none⟩ (.int .u64 x13) <|
       Chk1 ⟨n5, 1, none⟩ (.slice s14p s14l s14c) <|
       CallT Go.Proofs.Try.prog 13 [.agg #[.int .u64 x15, .slice s16p s16l s16c]] (.s (.agg [(.int .u64), .slice])) fun x131 s132p s132l s132c =>
       Chk1 ⟨n5, 0, none⟩ (.int .u64 x13) <|
       Chk1 ⟨n5, 1, none⟩ (.slice s14p s14l s14c) <|
       Store1 ⟨n126, 0, none⟩ (.int .u64 x17) <|
       Store1 ⟨n126, 1, none⟩ (.slice s18p s18l s18c) <|
       Chk1 ⟨n6, 0, none⟩ (.int .u64 x15) <|
       Chk1 ⟨n6, 1, none⟩ (.slice s16p s16l s16c) <|
       Store1 ⟨n130, 0, none⟩ (.int .u64 x131) <|
       Store1 ⟨n130, 1, none⟩ (.slice s132p s132l s132c) <|
       F6_J1 k ⟨n126, 0, none⟩ ⟨n130, 0, none⟩)) (
      New [.int .u64 0, .slice none 0 0] 25 fun n133 =>
      Chk1 ⟨n6, 0, none⟩ (.int .u64 x15) <|
      Chk1 ⟨n6, 1, none⟩ (.slice s16p s16l s16c) <|
      Chk1 ⟨n5, 0, none⟩ (.int .u64 x13) <|
      Chk1 ⟨n5, 1, none⟩ (.slice s14p s14l s14c) <|
      Both (
       CallT Go.Proofs.Try.prog 13 [.agg #[.int .u64 x15, .slice s16p s16l s16c]] (.s (.agg [(.int .u64), .slice])) fun x134 s135p s135l s135c =>
       Chk1 ⟨n5, 0, none⟩ (.int .u64 x13) <|
       Chk1 ⟨n5, 1, none⟩ (.slice s14p s14l s14c) <|
       New [.int .u64 0, .slice none 0 0] 25 fun n136 =>
       Chk1 ⟨n6, 0, none⟩ (.int .u64 x15) <|
       Chk1 ⟨n6, 1, none⟩ (.slice s16p s16l s16c) <|
       Chk1 ⟨n5, 0, none⟩ (.int .u64 x13) <|
       Chk1 ⟨n5, 1, none⟩ (.slice s14p s14l s14c) <|
       Store1 ⟨n136, 0, none⟩ (.int .u64 x17) <|
       Store1 ⟨n136, 1, none⟩ (.slice s18p s18l s18c) <|
       Chk1 ⟨n6, 0, none⟩ (.int .u64 x15) <|
       Chk1 ⟨n6, 1, none⟩ (.slice s16p s16l s16c) <|
       Store1 ⟨n133, 0, none⟩ (.int .u64 x134) <|
       Store1 ⟨n133, 1, none⟩ (.slice s135p s135l s135c) <|
       F6_J1 k ⟨n136, 0, none⟩ ⟨n133, 0, none⟩) (
       New [.int .u64 0, .slice none 0 0] 25 fun n137 =>
       Chk1 ⟨n6, 0, none⟩ (.int .u64 x15) <|
       Chk1 ⟨n6, 1, none⟩ (.slice s16p s16l s16c) <|
       Chk1 ⟨n5, 0, none⟩ (.int .u64 x13) <|
       Chk1 ⟨n5, 1, none⟩ (.slice s14p s14l s14c) <|
       CallT Go.Proofs.Try.prog 13 [.agg #[.int .u64 x15, .slice s16p s16l s16c]] (.s (.agg [(.int .u64), .slice])) fun x138 s139p s139l s139c =>
       Chk1 ⟨n5, 0, none⟩ (.int .u64 x13) <|
       Chk1 ⟨n5, 1, none⟩ (.slice s14p s14l s14c) <|
       Store1 ⟨n137, 0, none⟩ (.int .u64 x17) <|
       Store1 ⟨n137, 1, none⟩ (.slice s18p s18l s18c) <|
       Chk1 ⟨n6, 0, none⟩ (.int .u64 x15) <|
       Chk1 ⟨n6, 1, none⟩ (.slice s16p s16l s16c) <|
       Store1 ⟨n133, 0, none⟩ (.int .u64 x138) <|
       Store1 ⟨n133, 1, none⟩ (.slice s139p s139l s139c) <|
       F6_J1 k ⟨n137, 0, none⟩ ⟨n133, 0, none⟩)))) (
    Both (
     New [.int .u64 0, .slice none 0 0] 25 fun n140 =>
     Chk1 ⟨n6, 0, none⟩ (.int .u64 x15) <|
     Chk1 ⟨n6, 1, none⟩ (.slice s16p s16l s16c) <|
     Chk1 ⟨n5, 0, none⟩ (.int .u64 x13) <|
     Chk1 ⟨n5, 1, none⟩ (.slice s14p s14l s14c) <|
     Both (
      CallT Go.Proofs.Try.prog 13 [.agg #[.int .u64 x13, .slice s14p s14l s14c]] (.s (.agg [(.int .u64), .slice])) fun x141 s142p s142l s142c =>
      Chk1 ⟨n6, 0, none⟩ (.int .u64 x15) <|
      Chk1 ⟨n6, 1, none⟩ (.slice s16p s16l s16c) <|
      Both (
       CallT Go.Proofs.Try.prog 13 [.agg #[.int .u64 x15, .slice s16p s16l s16c]] (.s (.agg [(.int .u64), .slice])) fun x143 s144p s144l s144c =>
       Chk1 ⟨n5, 0, none⟩ (.int .u64 x13) <|
       Chk1 ⟨n5, 1, none⟩ (.slice s14p s14l s14c) <|
       New [.int .u64 0, .slice none 0 0] 25 fun n145 =>
       Chk1 ⟨n6, 0, none⟩ (.int .u64 x15) <|
       Chk1 ⟨n6, 1, none⟩ (.slice s16p s16l s16c) <|
       Chk1 ⟨n5, 0, none⟩ (.int .u64 x13) <|
       Chk1 ⟨n5, 1, none⟩ (.slice s14p s14l s14c) <|
       Store1 ⟨n140, 0, none⟩ (.int .u64 x141) <|
       Store1 ⟨n140, 1, none⟩ (.slice s142p s142l s142c) <|
       Chk1 ⟨n6, 0, none⟩ (.int .u64 x15) <|
       Chk1 ⟨n6, 1, none⟩ (.slice s16p s16l s16c) <|
       Store1 ⟨n145, 0, none⟩ (.int .u64 x143) <|
       Store1 ⟨n145, 1, none⟩ (.slice s144p s144l s144c) <|
       F6_J1 k ⟨n140, 0, none⟩ ⟨n145, 0, none⟩) (
       New [.int .u64 0, .slice none 0 0] 25 fun n146 =>
       Chk1 ⟨n6, 0, none⟩ (.int .u64 x15) <|
       Chk1 ⟨n6, 1, none⟩ (.slice s16p s16l s16c) <|
       Chk1 ⟨n5, 0, none⟩ (.int .u64 x13) <|
       Chk1 ⟨n5, 1, none⟩ (.slice s14p s14l s14c) <|
       CallT Go.Proofs.Try.prog 13 [.agg #[.int .u64 x15, .slice s16p s16l s16c]] (.s (.agg [(.int .u64), .slice])) fun x147 s148p s148l s148c =>
       Chk1 ⟨n5, 0, none⟩ (.int .u64 x13) <|
       Chk1 ⟨n5, 1, none⟩ (.slice s14p s14l s14c) <|
       Store1 ⟨n140, 0, none⟩ (.int .u64 x141) <|
       Store1 ⟨n140, 1, none⟩ (.slice s142p s142l s142c) <|
       Chk1 ⟨n6, 0, none⟩ (.int .u64 x15) <|
       Chk1 ⟨n6, 1, none⟩ (.slice s16p s16l s16c) <|
       Store1 ⟨n146, 0, none⟩ (.int .u64 x147) <|
       Store1 ⟨n146, 1, none⟩ (.slice s148p s148l s148c) <|
       F6_J1 k ⟨n140, 0, none⟩ ⟨n146, 0, none⟩)) (
      New [.int .u64 0, .slice none 0 0] 25 fun n149 =>
      Chk1 ⟨n6, 0, none⟩ (.int .u64 x15) <|
      Chk1 ⟨n6, 1, none⟩ (.slice s16p s16l s16c) <|
      Chk1 ⟨n5, 0, none⟩ (.int .u64 x13) <|
      Chk1 ⟨n5, 1, none⟩ (.slice s14p s14l s14c) <|
      CallT Go.Proofs.Try.prog 13 [.agg #[.int .u64 x13, .slice s14p s14l s14c]] (.s (.agg [(.int .u64), .slice])) fun x150 s151p s151l s151c =>
      Chk1 ⟨n6, 0, none⟩ (.int .u64 x15) <|
      Chk1 ⟨n6, 1, none⟩ (.slice s16p s16l s16c) <|
      CallT Go.Proofs.Try.prog 13 [.agg #[.int .u64 x15, .slice s16p s16l s16c]] (.s (.agg [(.int .u64), .slice])) fun x152 s153p s153l s153c =>
      Chk1 ⟨n5, 0, none⟩ (.int .u64 x13) <|
      Chk1 ⟨n5, 1, none⟩ (.slice s14p s14l s14c) <|
      Store1 ⟨n140, 0, none⟩ (.int .u64 x150) <|
      Store1 ⟨n140, 1, none⟩ (.slice s151p s151l s151c) <|
      Chk1 ⟨n6, 0, none⟩ (.int .u64 x15) <|
      Chk1 ⟨n6, 1, none⟩ (.slice s16p s16l s16c) <|
      Store1 ⟨n149, 0, none⟩ (.int .u64 x152) <|
      Store1 ⟨n149, 1, none⟩ (.slice s153p s153l s153c) <|
      F6_J1 k ⟨n140, 0, none⟩ ⟨n149, 0, none⟩)) (
     New [.int .u64 0, .slice none 0 0] 25 fun n154 =>
     Chk1 ⟨n6, 0, none⟩ (.int .u64 x15) <|
     Chk1 ⟨n6, 1, none⟩ (.slice s16p s16l s16c) <|
     Chk1 ⟨n5, 0, none⟩ (.int .u64 x13) <|
     Chk1 ⟨n5, 1, none⟩ (.slice s14p s14l s14c) <|
     Both (
      CallT Go.Proofs.Try.prog 13 [.agg #[.int .u64 x13, .slice s14p s14l s14c]] (.s (.agg [(.int .u64), .slice])) fun x155 s156p s156l s156c =>
      Chk1 ⟨n6, 0, none⟩ (.int .u64 x15) <|
      Chk1 ⟨n6, 1, none⟩ (.slice s16p s16l s16c) <|
      Both (
       CallT Go.Proofs.Try.prog 13 [.agg #[.int .u64 x15, .slice s16p s16l s16c]] (.s (.agg [(.int .u64), .slice])) fun x157 s158p s158l s158c =>
       Chk1 ⟨n5, 0, none⟩ (.int .u64 x13) <|
       Chk1 ⟨n5, 1, none⟩ (.slice s14p s14l s14c) <|
       New [.int .u64 0, .slice none 0 0] 25 fun n159 =>
       Chk1 ⟨n6, 0, none⟩ (.int .u64 x15) <|
       Chk1 ⟨n6, 1, none⟩ (.slice s16p s16l s16c) <|
       Chk1 ⟨n5, 0, none⟩ (.int .u64 x13) <|
       Chk1 ⟨n5, 1, none⟩ (.slice s14p s14l s14c) <|
       Store1 ⟨n159, 0, none⟩ (.int .u64 x155) <|
       Store1 ⟨n159, 1, none⟩ (.slice s156p s156l s156c) <|
       Chk1 ⟨n6, 0, none⟩ (.int .u64 x15) <|
       Chk1 ⟨n6, 1, none⟩ (.slice s16p s16l s16c) <|
       Store1 ⟨n154, 0, none⟩ (.int .u64 x157) <|
       Store1 ⟨n154, 1, none⟩ (.slice s158p s158l s158c) <|
       F6_J1 k ⟨n159, 0, none⟩ ⟨n154, 0, none⟩) (
       New [.int .u64 0, .slice none 0 0] 25 fun n160 =>
       Chk1 ⟨n6, 0, none⟩ (.int .u64 x15) <|
       Chk1 ⟨n6, 1, none⟩ (.slice s16p s16l s16c) <|
       Chk1 ⟨n5, 0, none⟩ (.int .u64 x13) <|
       Chk1 ⟨n5, 1, none⟩ (.slice s14p s14l s14c) <|
       CallT Go.Proofs.Try.prog 13 [.agg #[.int .u64 x15, .slice s16p s16l s16c]] (.s (.agg [(.int .u64), .slice])) fun x161 s162p s162l s162c =>
       Chk1 ⟨n5, 0, none⟩ (.int .u64 x13) <|
       Chk1 ⟨n5, 1, none⟩ (.slice s14p s14l s14c) <|
       Store1 ⟨n160, 0, none⟩ (.int .u64 x155) <|
       Store1 ⟨n160, 1, none⟩ (.slice s156p s156l s156c) <|
       Chk1 ⟨n6, 0, none⟩ (.int .u64 x15) <|
       Chk1 ⟨n6, 1, none⟩ (.slice s16p s16l s16c) <|
       Store1 ⟨n154, 0, none⟩ (.int .u64 x161) <|
       Store1 ⟨n154, 1, none⟩ (.slice s162p s162l s162c) <|
       F6_J1 k ⟨n160, 0, none⟩ ⟨n154, 0, none⟩)) (
      New [.int .u64 0, .slice none 0 0] 25 fun n163 =>
      Chk1 ⟨n6, 0, none⟩ (.int .u64 x15) <|
      Chk1 ⟨n6, 1, none⟩ (.slice s16p s16l s16c) <|
      Chk1 ⟨n5, 0, none⟩ (.int .u64 x13) <|
      Chk1 ⟨n5, 1, none⟩ (.slice s14p s14l s14c) <|
      CallT Go.Proofs.Try.prog 13 [.agg #[.int .u64 x13, .slice s14p s14l s14c]] (.s (.agg [(.int .u64), .slice])) fun x164 s165p s165l s165c =>
      Chk1 ⟨n6, 0, none⟩ (.int .u64 x15) <|
      Chk1 ⟨n6, 1, none⟩ (.slice s16p s16l s16c) <|
      CallT Go.Proofs.Try.prog 13 [.agg #[.int .u64 x15, .slice s16p s16l s16c]] (.s (.agg [(.int .u64), .slice])) fun x166 s167p s167l s167c =>
      Chk1 ⟨n5, 0, none⟩ (.int .u64 x13) <|
      Chk1 ⟨n5, 1, none⟩ (.slice s14p s14l s14c) <|
      Store1 ⟨n163, 0, none⟩ (.int .u64 x164) <|
      Store1 ⟨n163, 1, none⟩ (.slice s165p s165l s165c) <|
      Chk1 ⟨n6, 0, none⟩ (.int .u64 x15) <|
      Chk1 ⟨n6, 1, none⟩ (.slice s16p s16l s16c) <|
      Store1 ⟨n154, 0, none⟩ (.int .u64 x166) <|
      Store1 ⟨n154, 1, none⟩ (.slice s167p s167l s167c) <|
      F6_J1 k ⟨n163, 0, none⟩ ⟨n154, 0, none⟩)))))
theorem F6_eq (k : Value → W) (x1 : Int) (s2p : Option Addr) (s2l : Nat) (s2c : Nat) (x3 : Int) (s4p : Option Addr) (s4l : Nat) (s4c : Nat) : compF Go.Proofs.Try.prog Go.Proofs.Try.f6 [] (Go.Proofs.Try.f6.body.getD .skip) [.agg #[.int .u64 x1, .slice s2p s2l s2c], .agg #[.int .u64 x3, .slice s4p s4l s4c]] k = F6 k x1 s2p s2l s2c x3 s4p s4l s4c := by kernel_rfl
theorem F6_calls {x1 : Int} {s2p : Option Addr} {s2l : Nat} {s2c : Nat} {x3 : Int} {s4p : Option Addr} {s4l : Nat} {s4c : Nat} {w : World} {R : Ending → World → Prop} (h : F6 (fun v w => R (.returned v) w) x1 s2p s2l s2c x3 s4p s4l s4c w) : Calls Go.Proofs.Try.prog 6 #[.agg #[.int .u64 x1, .slice s2p s2l s2c], .agg #[.int .u64 x3, .slice s4p s4l s4c]] w R :=
  calls_of_compF noNum follows [] (f := 6) (fn := Go.Proofs.Try.f6) (body := Go.Proofs.Try.f6.body.getD .skip) (args := [.agg #[.int .u64 x1, .slice s2p s2l s2c], .agg #[.int .u64 x3, .slice s4p s4l s4c]]) rfl rfl (Nat.le_of_ble_eq_true rfl) ((congrFun (F6_eq _ x1 s2p s2l s2c x3 s4p s4l s4c) w).mpr h)
theorem F6_call {x1 : Int} {s2p : Option Addr} {s2l : Nat} {s2c : Nat} {x3 : Int} {s4p : Option Addr} {s4l : Nat} {s4c : Nat} {w : World} {g : Fn W (RTy.leaves (.s (.one .bool)))} (h : F6 (fun v => Back (.s (.one .bool)) g (.returned v)) x1 s2p s2l s2c x3 s4p s4l s4c w) : CallT Go.Proofs.Try.prog 6 [.agg #[.int .u64 x1, .slice s2p s2l s2c], .agg #[.int .u64 x3, .slice s4p s4l s4c]] (.s (.one .bool)) g w := F6_calls h

end Go.Proofs.Ytopdlfecfgimpaa.E
