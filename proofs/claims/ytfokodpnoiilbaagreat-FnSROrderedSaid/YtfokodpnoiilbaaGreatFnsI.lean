/-
  Printed by this session's own program eng.py out of Lean's print of the loaded functions: what each function's body asks, in the engine's words; each is checked against the program by the kernel.
-/
import Derived.Test.YtfokodpnoiilbaaGreatEng
import Derived.Test.YtfokodpnoiilbaaGreatFnsA
namespace Go.Proofs.YtfokodpnoiilbaaGreat.E
open Go
set_option linter.unusedVariables false
set_option maxRecDepth 100000
/-! ## skiplist.skipListRT).Delete -/
def F52_L1 (k : Value → W) (again9 : Option Addr → Option Addr → Nat → Nat → Option Addr → Nat → Nat → Int → Int → W) (rt_4 : Option Addr) (deletedEntries_5p : Option Addr) (deletedEntries_5l : Nat) (deletedEntries_5c : Nat) (s6p : Option Addr) (s6l : Nat) (s6c : Nat) (x7 : Int) (x8 : Int) : W :=
 BIf (decide (x8 < x7)) (
  NN s6p fun a10 =>
  Req (0 ≤ x8 ∧ x8 < ((s6l : Nat) : Int)) <|
  LoadT .any (a10.add x8.toNat) fun v11 =>
  CallT Go.Proofs.Tryz.prog 59 [.pointer rt_4, v11] (.s (.one .any)) fun v12 =>
  NN deletedEntries_5p fun a13 =>
  Req (0 ≤ x8 ∧ x8 < ((deletedEntries_5l : Nat) : Int)) <|
  Req (oneC v12 = true) <|
  Store1 (a13.add x8.toNat) v12 <|
  again9 rt_4 deletedEntries_5p deletedEntries_5l deletedEntries_5c s6p s6l s6c x7 (addI .i64 x8 1)) (
  k (.slice deletedEntries_5p deletedEntries_5l deletedEntries_5c))
theorem F52_L1_rule {k : Value → W} (I : Option Addr → Option Addr → Nat → Nat → Option Addr → Nat → Nat → Int → Int → W) (μ : Option Addr → Option Addr → Nat → Nat → Option Addr → Nat → Nat → Int → Int → World → Nat)
  (hr : ∀ (rt_4 : Option Addr) (deletedEntries_5p : Option Addr) (deletedEntries_5l : Nat) (deletedEntries_5c : Nat) (s6p : Option Addr) (s6l : Nat) (s6c : Nat) (x7 : Int) (x8 : Int) (w : World), I rt_4 deletedEntries_5p deletedEntries_5l deletedEntries_5c s6p s6l s6c x7 x8 w → F52_L1 k (fun rt_4' deletedEntries_5p' deletedEntries_5l' deletedEntries_5c' s6p' s6l' s6c' x7' x8' w' => I rt_4' deletedEntries_5p' deletedEntries_5l' deletedEntries_5c' s6p' s6l' s6c' x7' x8' w' ∧ μ rt_4' deletedEntries_5p' deletedEntries_5l' deletedEntries_5c' s6p' s6l' s6c' x7' x8' w' < μ rt_4 deletedEntries_5p deletedEntries_5l deletedEntries_5c s6p s6l s6c x7 x8 w) rt_4 deletedEntries_5p deletedEntries_5l deletedEntries_5c s6p s6l s6c x7 x8 w)
  {w : World} {rt_4 : Option Addr} {deletedEntries_5p : Option Addr} {deletedEntries_5l : Nat} {deletedEntries_5c : Nat} {s6p : Option Addr} {s6l : Nat} {s6c : Nat} {x7 : Int} {x8 : Int} (h : I rt_4 deletedEntries_5p deletedEntries_5l deletedEntries_5c s6p s6l s6c x7 x8 w) : Loop [.ptr, .slice, .slice, (.int .i64), (.int .i64)] (F52_L1 k) rt_4 deletedEntries_5p deletedEntries_5l deletedEntries_5c s6p s6l s6c x7 x8 w :=
  Loop_intro (ts := [.ptr, .slice, .slice, (.int .i64), (.int .i64)]) (s := (rt_4, (deletedEntries_5p, deletedEntries_5l, deletedEntries_5c), (s6p, s6l, s6c), x7, x8, ())) (fun s w => I s.1 s.2.1.1 s.2.1.2.1 s.2.1.2.2 s.2.2.1.1 s.2.2.1.2.1 s.2.2.1.2.2 s.2.2.2.1 s.2.2.2.2.1 w) (fun s w => μ s.1 s.2.1.1 s.2.1.2.1 s.2.1.2.2 s.2.2.1.1 s.2.2.1.2.1 s.2.2.1.2.2 s.2.2.2.1 s.2.2.2.2.1 w) h (fun s w h => hr s.1 s.2.1.1 s.2.1.2.1 s.2.1.2.2 s.2.2.1.1 s.2.2.1.2.1 s.2.2.1.2.2 s.2.2.2.1 s.2.2.2.2.1 w h)
def F52 (k : Value → W) (rt_1 : Option Addr) (entries_2p : Option Addr) (entries_2l : Nat) (entries_2c : Nat) : W :=
 RawT Go.Proofs.Tryz.prog (Instr.makeSlice 70 (.int .i64 ((entries_2l : Nat) : Int)) (.int .i64 ((entries_2l : Nat) : Int))) (.s (.one .slice)) fun s3p s3l s3c =>
 Loop [.ptr, .slice, .slice, (.int .i64), (.int .i64)] (F52_L1 k) rt_1 s3p s3l s3c entries_2p entries_2l entries_2c ((entries_2l : Nat) : Int) 0
theorem F52_eq (k : Value → W) (rt_1 : Option Addr) (entries_2p : Option Addr) (entries_2l : Nat) (entries_2c : Nat) : compF Go.Proofs.Tryz.prog Go.Proofs.Tryz.f52 [(3, [(0, .ptr), (5, .slice), (11, .slice), (12, (.int .i64)), (13, (.int .i64))])] (Go.Proofs.Tryz.f52.body.getD .skip) [.pointer rt_1, .slice entries_2p entries_2l entries_2c] k = F52 k rt_1 entries_2p entries_2l entries_2c := by kernel_rfl
theorem F52_calls {rt_1 : Option Addr} {entries_2p : Option Addr} {entries_2l : Nat} {entries_2c : Nat} {w : World} {R : Ending → World → Prop} (h : F52 (fun v w => R (.returned v) w) rt_1 entries_2p entries_2l entries_2c w) : Calls Go.Proofs.Tryz.prog 52 #[.pointer rt_1, .slice entries_2p entries_2l entries_2c] w R :=
  calls_of_compF noNum follows [(3, [(0, .ptr), (5, .slice), (11, .slice), (12, (.int .i64)), (13, (.int .i64))])] (f := 52) (fn := Go.Proofs.Tryz.f52) (body := Go.Proofs.Tryz.f52.body.getD .skip) (args := [.pointer rt_1, .slice entries_2p entries_2l entries_2c]) rfl rfl (Nat.le_of_ble_eq_true rfl) ((congrFun (F52_eq _ rt_1 entries_2p entries_2l entries_2c) w).mpr h)
theorem F52_call {rt_1 : Option Addr} {entries_2p : Option Addr} {entries_2l : Nat} {entries_2c : Nat} {w : World} {g : Fn W (RTy.leaves (.s (.one .slice)))} (h : F52 (fun v => Back (.s (.one .slice)) g (.returned v)) rt_1 entries_2p entries_2l entries_2c w) : CallT Go.Proofs.Tryz.prog 52 [.pointer rt_1, .slice entries_2p entries_2l entries_2c] (.s (.one .slice)) g w := F52_calls h

/-! ## skiplist.skipListRT).Query -/
def F56 (k : Value → W) (rt_1 : Option Addr) (interval_2 : Value) : W :=
 RawT Go.Proofs.Tryz.prog (Instr.makeSlice 70 (.int .i64 0) (.int .i64 100)) (.s (.one .slice)) fun s3p s3l s3c =>
 New [.slice none 0 0] 70 fun n4 =>
 Store1 ⟨n4, 0, none⟩ (.slice s3p s3l s3c) <|
 NN rt_1 fun a5 =>
 LoadT .ptr a5 fun p6 =>
 CallT Go.Proofs.Tryz.prog 58 [.pointer rt_1, .pointer p6, .int .u64 0, interval_2, .func (.func 62) #[] #[.pointer (some ⟨n4, 0, none⟩)]] (.s (.one .bool)) fun b7 =>
 LoadT .slice ⟨n4, 0, none⟩ fun s8p s8l s8c =>
 k (.slice s8p s8l s8c)
theorem F56_eq (k : Value → W) (rt_1 : Option Addr) (interval_2 : Value) : compF Go.Proofs.Tryz.prog Go.Proofs.Tryz.f56 [] (Go.Proofs.Tryz.f56.body.getD .skip) [.pointer rt_1, interval_2] k = F56 k rt_1 interval_2 := by kernel_rfl
theorem F56_calls {rt_1 : Option Addr} {interval_2 : Value} {w : World} {R : Ending → World → Prop} (h : F56 (fun v w => R (.returned v) w) rt_1 interval_2 w) : Calls Go.Proofs.Tryz.prog 56 #[.pointer rt_1, interval_2] w R :=
  calls_of_compF noNum follows [] (f := 56) (fn := Go.Proofs.Tryz.f56) (body := Go.Proofs.Tryz.f56.body.getD .skip) (args := [.pointer rt_1, interval_2]) rfl rfl (Nat.le_of_ble_eq_true rfl) ((congrFun (F56_eq _ rt_1 interval_2) w).mpr h)
theorem F56_call {rt_1 : Option Addr} {interval_2 : Value} {w : World} {g : Fn W (RTy.leaves (.s (.one .slice)))} (h : F56 (fun v => Back (.s (.one .slice)) g (.returned v)) rt_1 interval_2 w) : CallT Go.Proofs.Tryz.prog 56 [.pointer rt_1, interval_2] (.s (.one .slice)) g w := F56_calls h

/-! ## skiplist.skipListRT).apply -/
def F58_L1 (k : Value → W) (again15 : Option Addr → Int → Value → Value → Int → Value → W) (rt_9 : Option Addr) (dimension_10 : Int) (interval_11 : Value) (fn_12 : Value) (highValue_13 : Int) (iter_14 : Value) : W :=
 NextT Go.Proofs.Tryz.prog (callMethod iter_14 "Next" [].toArray) (.s (.one .bool)) fun b16 =>
 BIf b16 (
  NextT Go.Proofs.Tryz.prog (callMethod iter_14 "Value" [].toArray) (.s (.one .any)) fun v17 =>
  RawS Go.Proofs.Tryz.prog (Instr.typeAssert v17 115 155 false) (.s (.one .any)) fun v18 =>
  NextT Go.Proofs.Tryz.prog (callMethod v18 "given.example/pub-spokeshave/pub/godatastructures/rangetree/skiplist.key" [].toArray) (.s (.one (.int .u64))) fun x19 =>
  BIf (decide ((IntKind.wrap .i64 x19) ≥ highValue_13)) (
   k (.bool true)) (
   NN rt_9 fun a20 =>
   LoadT (.int .u64) (a20.add 1) fun x21 =>
   CallT Go.Proofs.Tryz.prog 64 [.int .u64 dimension_10, .int .u64 x21] (.s (.one .bool)) fun b22 =>
   BIf b22 (
    TAs v17 138 (.s (.one .ptr)) fun p23 =>
    NN p23 fun a24 =>
    LoadT .any (a24.add 1) fun v25 =>
    NextT Go.Proofs.Tryz.prog (callV fn_12 [v25].toArray) (.s (.one .bool)) fun b26 =>
    BIf (!b26) (
     k (.bool false)) (
     again15 rt_9 dimension_10 interval_11 fn_12 highValue_13 iter_14)) (
    TAs v17 137 (.s (.one .ptr)) fun p27 =>
    NN p27 fun a28 =>
    LoadT .ptr (a28.add 1) fun p29 =>
    CallT Go.Proofs.Tryz.prog 58 [.pointer rt_9, .pointer p29, .int .u64 (addI .u64 dimension_10 1), interval_11, fn_12] (.s (.one .bool)) fun b30 =>
    BIf (!b30) (
     k (.bool false)) (
     again15 rt_9 dimension_10 interval_11 fn_12 highValue_13 iter_14)))) (
  k (.bool true))
theorem F58_L1_rule {k : Value → W} (I : Option Addr → Int → Value → Value → Int → Value → W) (μ : Option Addr → Int → Value → Value → Int → Value → World → Nat)
  (hr : ∀ (rt_9 : Option Addr) (dimension_10 : Int) (interval_11 : Value) (fn_12 : Value) (highValue_13 : Int) (iter_14 : Value) (w : World), I rt_9 dimension_10 interval_11 fn_12 highValue_13 iter_14 w → F58_L1 k (fun rt_9' dimension_10' interval_11' fn_12' highValue_13' iter_14' w' => I rt_9' dimension_10' interval_11' fn_12' highValue_13' iter_14' w' ∧ μ rt_9' dimension_10' interval_11' fn_12' highValue_13' iter_14' w' < μ rt_9 dimension_10 interval_11 fn_12 highValue_13 iter_14 w) rt_9 dimension_10 interval_11 fn_12 highValue_13 iter_14 w)
  {w : World} {rt_9 : Option Addr} {dimension_10 : Int} {interval_11 : Value} {fn_12 : Value} {highValue_13 : Int} {iter_14 : Value} (h : I rt_9 dimension_10 interval_11 fn_12 highValue_13 iter_14 w) : Loop [.ptr, (.int .u64), .any, .any, (.int .i64), .any] (F58_L1 k) rt_9 dimension_10 interval_11 fn_12 highValue_13 iter_14 w :=
  Loop_intro (ts := [.ptr, (.int .u64), .any, .any, (.int .i64), .any]) (s := (rt_9, dimension_10, interval_11, fn_12, highValue_13, iter_14, ())) (fun s w => I s.1 s.2.1 s.2.2.1 s.2.2.2.1 s.2.2.2.2.1 s.2.2.2.2.2.1 w) (fun s w => μ s.1 s.2.1 s.2.2.1 s.2.2.2.1 s.2.2.2.2.1 s.2.2.2.2.2.1 w) h (fun s w h => hr s.1 s.2.1 s.2.2.1 s.2.2.2.1 s.2.2.2.2.1 s.2.2.2.2.2.1 w h)
def F58 (k : Value → W) (rt_1 : Option Addr) (sl_2 : Option Addr) (dimension_3 : Int) (interval_4 : Value) (fn_5 : Value) : W :=
 NextT Go.Proofs.Tryz.prog (callMethod interval_4 "LowAtDimension" [.int .u64 dimension_3].toArray) (.s (.one (.int .i64))) fun x6 =>
 NextT Go.Proofs.Tryz.prog (callMethod interval_4 "HighAtDimension" [.int .u64 dimension_3].toArray) (.s (.one (.int .i64))) fun x7 =>
 CallT Go.Proofs.Tryz.prog 66 [.pointer sl_2, .iface 143 (.int .u64 (IntKind.wrap .u64 x6))] (.s (.one .any)) fun v8 =>
 Loop [.ptr, (.int .u64), .any, .any, (.int .i64), .any] (F58_L1 k) rt_1 dimension_3 interval_4 fn_5 x7 v8
theorem F58_eq (k : Value → W) (rt_1 : Option Addr) (sl_2 : Option Addr) (dimension_3 : Int) (interval_4 : Value) (fn_5 : Value) : compF Go.Proofs.Tryz.prog Go.Proofs.Tryz.f58 [(4, [(0, .ptr), (2, (.int .u64)), (3, .any), (4, .any), (12, (.int .i64)), (14, .any)])] (Go.Proofs.Tryz.f58.body.getD .skip) [.pointer rt_1, .pointer sl_2, .int .u64 dimension_3, interval_4, fn_5] k = F58 k rt_1 sl_2 dimension_3 interval_4 fn_5 := by kernel_rfl
theorem F58_calls {rt_1 : Option Addr} {sl_2 : Option Addr} {dimension_3 : Int} {interval_4 : Value} {fn_5 : Value} {w : World} {R : Ending → World → Prop} (h : F58 (fun v w => R (.returned v) w) rt_1 sl_2 dimension_3 interval_4 fn_5 w) : Calls Go.Proofs.Tryz.prog 58 #[.pointer rt_1, .pointer sl_2, .int .u64 dimension_3, interval_4, fn_5] w R :=
  calls_of_compF noNum follows [(4, [(0, .ptr), (2, (.int .u64)), (3, .any), (4, .any), (12, (.int .i64)), (14, .any)])] (f := 58) (fn := Go.Proofs.Tryz.f58) (body := Go.Proofs.Tryz.f58.body.getD .skip) (args := [.pointer rt_1, .pointer sl_2, .int .u64 dimension_3, interval_4, fn_5]) rfl rfl (Nat.le_of_ble_eq_true rfl) ((congrFun (F58_eq _ rt_1 sl_2 dimension_3 interval_4 fn_5) w).mpr h)
theorem F58_call {rt_1 : Option Addr} {sl_2 : Option Addr} {dimension_3 : Int} {interval_4 : Value} {fn_5 : Value} {w : World} {g : Fn W (RTy.leaves (.s (.one .bool)))} (h : F58 (fun v => Back (.s (.one .bool)) g (.returned v)) rt_1 sl_2 dimension_3 interval_4 fn_5 w) : CallT Go.Proofs.Tryz.prog 58 [.pointer rt_1, .pointer sl_2, .int .u64 dimension_3, interval_4, fn_5] (.s (.one .bool)) g w := F58_calls h

/-! ## skiplist.skipListRT).delete -/
def F59 (k : Value → W) (rt_1 : Option Addr) (entry_2 : Value) : W :=
 NN rt_1 fun a3 =>
 LoadT .ptr a3 fun p4 =>
 CallT Go.Proofs.Tryz.prog 67 [.pointer rt_1, .pointer p4, .int .u64 0, entry_2] (.s (.one .any)) fun v5 =>
 k v5
theorem F59_eq (k : Value → W) (rt_1 : Option Addr) (entry_2 : Value) : compF Go.Proofs.Tryz.prog Go.Proofs.Tryz.f59 [] (Go.Proofs.Tryz.f59.body.getD .skip) [.pointer rt_1, entry_2] k = F59 k rt_1 entry_2 := by kernel_rfl
theorem F59_calls {rt_1 : Option Addr} {entry_2 : Value} {w : World} {R : Ending → World → Prop} (h : F59 (fun v w => R (.returned v) w) rt_1 entry_2 w) : Calls Go.Proofs.Tryz.prog 59 #[.pointer rt_1, entry_2] w R :=
  calls_of_compF noNum follows [] (f := 59) (fn := Go.Proofs.Tryz.f59) (body := Go.Proofs.Tryz.f59.body.getD .skip) (args := [.pointer rt_1, entry_2]) rfl rfl (Nat.le_of_ble_eq_true rfl) ((congrFun (F59_eq _ rt_1 entry_2) w).mpr h)
theorem F59_call {rt_1 : Option Addr} {entry_2 : Value} {w : World} {g : Fn W (RTy.leaves (.s (.one .any)))} (h : F59 (fun v => Back (.s (.one .any)) g (.returned v)) rt_1 entry_2 w) : CallT Go.Proofs.Tryz.prog 59 [.pointer rt_1, entry_2] (.s (.one .any)) g w := F59_calls h

/-! ## skiplist.skipListRT).Query$1 -/
def F62 (k : Value → W) (e_1 : Value) (a2 : Addr) : W :=
 LoadT .slice a2 fun s3p s3l s3c =>
 RawT Go.Proofs.Tryz.prog (Instr.buildSlice 70 1 [(0, e_1)].toArray) (.s (.one .slice)) fun s4p s4l s4c =>
 NextT Go.Proofs.Tryz.prog (builtin .append #[70, 70] 70 [false, false].toArray [.slice s3p s3l s3c, .slice s4p s4l s4c].toArray) (.s (.one .slice)) fun s5p s5l s5c =>
 Store1 a2 (.slice s5p s5l s5c) <|
 k (.bool true)
theorem F62_eq (k : Value → W) (e_1 : Value) (a2 : Addr) : compF Go.Proofs.Tryz.prog Go.Proofs.Tryz.f62 [] (Go.Proofs.Tryz.f62.body.getD .skip) [e_1, .pointer (some a2)] k = F62 k e_1 a2 := by kernel_rfl
theorem F62_calls {e_1 : Value} {a2 : Addr} {w : World} {R : Ending → World → Prop} (h : F62 (fun v w => R (.returned v) w) e_1 a2 w) : Calls Go.Proofs.Tryz.prog 62 #[e_1, .pointer (some a2)] w R :=
  calls_of_compF noNum follows [] (f := 62) (fn := Go.Proofs.Tryz.f62) (body := Go.Proofs.Tryz.f62.body.getD .skip) (args := [e_1, .pointer (some a2)]) rfl rfl (Nat.le_of_ble_eq_true rfl) ((congrFun (F62_eq _ e_1 a2) w).mpr h)
theorem F62_call {e_1 : Value} {a2 : Addr} {w : World} {g : Fn W (RTy.leaves (.s (.one .bool)))} (h : F62 (fun v => Back (.s (.one .bool)) g (.returned v)) e_1 a2 w) : CallT Go.Proofs.Tryz.prog 62 [e_1, .pointer (some a2)] (.s (.one .bool)) g w := F62_calls h

/-! ## skiplist.skipListRT).deleteRecursive -/
def F67 (k : Value → W) (rt_1 : Option Addr) (sl_2 : Option Addr) (dimension_3 : Int) (entry_4 : Value) : W :=
 NextT Go.Proofs.Tryz.prog (callMethod entry_4 "ValueAtDimension" [.int .u64 dimension_3].toArray) (.s (.one (.int .i64))) fun x5 =>
 NN rt_1 fun a6 =>
 LoadT (.int .u64) (a6.add 1) fun x7 =>
 CallT Go.Proofs.Tryz.prog 64 [.int .u64 dimension_3, .int .u64 x7] (.s (.one .bool)) fun b8 =>
 BIf b8 (
  RawT Go.Proofs.Tryz.prog (Instr.buildSlice 140 1 [(0, .iface 143 (.int .u64 (IntKind.wrap .u64 x5)))].toArray) (.s (.one .slice)) fun s9p s9l s9c =>
  CallT Go.Proofs.Tryz.prog 70 [.pointer sl_2, .slice s9p s9l s9c] (.s (.one .slice)) fun s10p s10l s10c =>
  NN s10p fun a11 =>
  Req (0 ≤ (0 : Int) ∧ (0 : Int) < ((s10l : Nat) : Int)) <|
  LoadT .any (a11.add ((0 : Int).toNat)) fun v12 =>
  IfaceNil v12 fun b13 =>
  BIf b13 (
   k .nilIface) (
   NN rt_1 fun a14 =>
   LoadT (.int .u64) (a14.add 2) fun x15 =>
   Store1 (a14.add 2) (.int .u64 (subI .u64 x15 1)) <|
   NN s10p fun a16 =>
   Req (0 ≤ (0 : Int) ∧ (0 : Int) < ((s10l : Nat) : Int)) <|
   LoadT .any (a16.add ((0 : Int).toNat)) fun v17 =>
   TAs v17 138 (.s (.one .ptr)) fun p18 =>
   NN p18 fun a19 =>
   LoadT .any (a19.add 1) fun v20 =>
   k v20)) (
  RawT Go.Proofs.Tryz.prog (Instr.buildSlice 140 1 [(0, .iface 143 (.int .u64 (IntKind.wrap .u64 x5)))].toArray) (.s (.one .slice)) fun s21p s21l s21c =>
  CallT Go.Proofs.Tryz.prog 63 [.pointer sl_2, .slice s21p s21l s21c] (.s (.one .slice)) fun s22p s22l s22c =>
  NN s22p fun a23 =>
  Req (0 ≤ (0 : Int) ∧ (0 : Int) < ((s22l : Nat) : Int)) <|
  LoadT .any (a23.add ((0 : Int).toNat)) fun v24 =>
  RawS Go.Proofs.Tryz.prog (Instr.typeAssert v24 115 137 true) (.tup [(.one .ptr), (.one .bool)]) fun p25 b26 =>
  BIf (!b26) (
   k .nilIface) (
   NN p25 fun a27 =>
   LoadT .ptr (a27.add 1) fun p28 =>
   CallT Go.Proofs.Tryz.prog 67 [.pointer rt_1, .pointer p28, .int .u64 (addI .u64 dimension_3 1), entry_4] (.s (.one .any)) fun v29 =>
   IfaceNil v29 fun b30 =>
   BIf b30 (
    k .nilIface) (
    NN p25 fun a31 =>
    LoadT .ptr (a31.add 1) fun p32 =>
    CallT Go.Proofs.Tryz.prog 75 [.pointer p32] (.s (.one (.int .u64))) fun x33 =>
    BIf (x33 == 0) (
     RawT Go.Proofs.Tryz.prog (Instr.buildSlice 140 1 [(0, .iface 137 (.pointer p25))].toArray) (.s (.one .slice)) fun s34p s34l s34c =>
     CallT Go.Proofs.Tryz.prog 70 [.pointer sl_2, .slice s34p s34l s34c] (.s (.one .slice)) fun s35p s35l s35c =>
     k v29) (
     k v29))))
theorem F67_eq (k : Value → W) (rt_1 : Option Addr) (sl_2 : Option Addr) (dimension_3 : Int) (entry_4 : Value) : compF Go.Proofs.Tryz.prog Go.Proofs.Tryz.f67 [] (Go.Proofs.Tryz.f67.body.getD .skip) [.pointer rt_1, .pointer sl_2, .int .u64 dimension_3, entry_4] k = F67 k rt_1 sl_2 dimension_3 entry_4 := by kernel_rfl
theorem F67_calls {rt_1 : Option Addr} {sl_2 : Option Addr} {dimension_3 : Int} {entry_4 : Value} {w : World} {R : Ending → World → Prop} (h : F67 (fun v w => R (.returned v) w) rt_1 sl_2 dimension_3 entry_4 w) : Calls Go.Proofs.Tryz.prog 67 #[.pointer rt_1, .pointer sl_2, .int .u64 dimension_3, entry_4] w R :=
  calls_of_compF noNum follows [] (f := 67) (fn := Go.Proofs.Tryz.f67) (body := Go.Proofs.Tryz.f67.body.getD .skip) (args := [.pointer rt_1, .pointer sl_2, .int .u64 dimension_3, entry_4]) rfl rfl (Nat.le_of_ble_eq_true rfl) ((congrFun (F67_eq _ rt_1 sl_2 dimension_3 entry_4) w).mpr h)
theorem F67_call {rt_1 : Option Addr} {sl_2 : Option Addr} {dimension_3 : Int} {entry_4 : Value} {w : World} {g : Fn W (RTy.leaves (.s (.one .any)))} (h : F67 (fun v => Back (.s (.one .any)) g (.returned v)) rt_1 sl_2 dimension_3 entry_4 w) : CallT Go.Proofs.Tryz.prog 67 [.pointer rt_1, .pointer sl_2, .int .u64 dimension_3, entry_4] (.s (.one .any)) g w := F67_calls h

/-! ## impl.reach).HighAtDimension -/
def F85 (k : Value → W) (s1p : Option Addr) (s1l : Nat) (s1c : Nat) (s2p : Option Addr) (s2l : Nat) (s2c : Nat) (x3 : Int) (d_4 : Int) : W :=
 New [.slice s1p s1l s1c, .slice s2p s2l s2c, .int .u64 x3] 67 fun n5 =>
 LoadT .slice ⟨n5, 1, none⟩ fun s6p s6l s6c =>
 CallT Go.Proofs.Tryz.prog 84 [.slice s6p s6l s6c, .int .u64 (addI .u64 d_4 1)] (.s (.one (.int .i64))) fun x7 =>
 k (.int .i64 x7)
theorem F85_eq (k : Value → W) (s1p : Option Addr) (s1l : Nat) (s1c : Nat) (s2p : Option Addr) (s2l : Nat) (s2c : Nat) (x3 : Int) (d_4 : Int) : compF Go.Proofs.Tryz.prog Go.Proofs.Tryz.f85 [] (Go.Proofs.Tryz.f85.body.getD .skip) [.agg #[.slice s1p s1l s1c, .slice s2p s2l s2c, .int .u64 x3], .int .u64 d_4] k = F85 k s1p s1l s1c s2p s2l s2c x3 d_4 := by kernel_rfl
theorem F85_calls {s1p : Option Addr} {s1l : Nat} {s1c : Nat} {s2p : Option Addr} {s2l : Nat} {s2c : Nat} {x3 : Int} {d_4 : Int} {w : World} {R : Ending → World → Prop} (h : F85 (fun v w => R (.returned v) w) s1p s1l s1c s2p s2l s2c x3 d_4 w) : Calls Go.Proofs.Tryz.prog 85 #[.agg #[.slice s1p s1l s1c, .slice s2p s2l s2c, .int .u64 x3], .int .u64 d_4] w R :=
  calls_of_compF noNum follows [] (f := 85) (fn := Go.Proofs.Tryz.f85) (body := Go.Proofs.Tryz.f85.body.getD .skip) (args := [.agg #[.slice s1p s1l s1c, .slice s2p s2l s2c, .int .u64 x3], .int .u64 d_4]) rfl rfl (Nat.le_of_ble_eq_true rfl) ((congrFun (F85_eq _ s1p s1l s1c s2p s2l s2c x3 d_4) w).mpr h)
theorem F85_call {s1p : Option Addr} {s1l : Nat} {s1c : Nat} {s2p : Option Addr} {s2l : Nat} {s2c : Nat} {x3 : Int} {d_4 : Int} {w : World} {g : Fn W (RTy.leaves (.s (.one (.int .i64))))} (h : F85 (fun v => Back (.s (.one (.int .i64))) g (.returned v)) s1p s1l s1c s2p s2l s2c x3 d_4 w) : CallT Go.Proofs.Tryz.prog 85 [.agg #[.slice s1p s1l s1c, .slice s2p s2l s2c, .int .u64 x3], .int .u64 d_4] (.s (.one (.int .i64))) g w := F85_calls h

/-! ## impl.reach).LowAtDimension -/
def F86 (k : Value → W) (s1p : Option Addr) (s1l : Nat) (s1c : Nat) (s2p : Option Addr) (s2l : Nat) (s2c : Nat) (x3 : Int) (d_4 : Int) : W :=
 New [.slice s1p s1l s1c, .slice s2p s2l s2c, .int .u64 x3] 67 fun n5 =>
 LoadT .slice ⟨n5, 0, none⟩ fun s6p s6l s6c =>
 CallT Go.Proofs.Tryz.prog 84 [.slice s6p s6l s6c, .int .u64 (addI .u64 d_4 1)] (.s (.one (.int .i64))) fun x7 =>
 k (.int .i64 x7)
theorem F86_eq (k : Value → W) (s1p : Option Addr) (s1l : Nat) (s1c : Nat) (s2p : Option Addr) (s2l : Nat) (s2c : Nat) (x3 : Int) (d_4 : Int) : compF Go.Proofs.Tryz.prog Go.Proofs.Tryz.f86 [] (Go.Proofs.Tryz.f86.body.getD .skip) [.agg #[.slice s1p s1l s1c, .slice s2p s2l s2c, .int .u64 x3], .int .u64 d_4] k = F86 k s1p s1l s1c s2p s2l s2c x3 d_4 := by kernel_rfl
theorem F86_calls {s1p : Option Addr} {s1l : Nat} {s1c : Nat} {s2p : Option Addr} {s2l : Nat} {s2c : Nat} {x3 : Int} {d_4 : Int} {w : World} {R : Ending → World → Prop} (h : F86 (fun v w => R (.returned v) w) s1p s1l s1c s2p s2l s2c x3 d_4 w) : Calls Go.Proofs.Tryz.prog 86 #[.agg #[.slice s1p s1l s1c, .slice s2p s2l s2c, .int .u64 x3], .int .u64 d_4] w R :=
  calls_of_compF noNum follows [] (f := 86) (fn := Go.Proofs.Tryz.f86) (body := Go.Proofs.Tryz.f86.body.getD .skip) (args := [.agg #[.slice s1p s1l s1c, .slice s2p s2l s2c, .int .u64 x3], .int .u64 d_4]) rfl rfl (Nat.le_of_ble_eq_true rfl) ((congrFun (F86_eq _ s1p s1l s1c s2p s2l s2c x3 d_4) w).mpr h)
theorem F86_call {s1p : Option Addr} {s1l : Nat} {s1c : Nat} {s2p : Option Addr} {s2l : Nat} {s2c : Nat} {x3 : Int} {d_4 : Int} {w : World} {g : Fn W (RTy.leaves (.s (.one (.int .i64))))} (h : F86 (fun v => Back (.s (.one (.int .i64))) g (.returned v)) s1p s1l s1c s2p s2l s2c x3 d_4 w) : CallT Go.Proofs.Tryz.prog 86 [.agg #[.slice s1p s1l s1c, .slice s2p s2l s2c, .int .u64 x3], .int .u64 d_4] (.s (.one (.int .i64))) g w := F86_calls h

/-! ## laws.FnSROrdered -/
def F3_L3 (k : Value → W) (again42 : Int → Option Addr → Nat → Nat → Option Addr → Nat → Nat → Option Addr → Nat → Nat → Int → W) (again64 : Int → Option Addr → Nat → Nat → Option Addr → Nat → Nat → Option Addr → Nat → Nat → Int → Int → W) (seed_58 : Int) (steps_59p : Option Addr) (steps_59l : Nat) (steps_59c : Nat) (a_60p : Option Addr) (a_60l : Nat) (a_60c : Nat) (b_61p : Option Addr) (b_61l : Nat) (b_61c : Nat) (i_62 : Int) (k_63 : Int) : W :=
 NN a_60p fun a65 =>
 Req (0 ≤ i_62 ∧ i_62 < ((a_60l : Nat) : Int)) <|
 LoadT .slice ((a65.add (i_62.toNat * 4)).add 1) fun s66p s66l s66c =>
 BIf (decide (k_63 < ((s66l : Nat) : Int))) (
  Drw <|
  NN a_60p fun a67 =>
  Req (0 ≤ i_62 ∧ i_62 < ((a_60l : Nat) : Int)) <|
  LoadT .slice ((a67.add (i_62.toNat * 4)).add 1) fun s68p s68l s68c =>
  NN s68p fun a69 =>
  Req (0 ≤ k_63 ∧ k_63 < ((s68l : Nat) : Int)) <|
  LoadT .bool (a69.add k_63.toNat) fun b70 =>
  NN b_61p fun a71 =>
  Req (0 ≤ i_62 ∧ i_62 < ((b_61l : Nat) : Int)) <|
  LoadT .slice ((a71.add (i_62.toNat * 4)).add 1) fun s72p s72l s72c =>
  NN s72p fun a73 =>
  Req (0 ≤ k_63 ∧ k_63 < ((s72l : Nat) : Int)) <|
  LoadT .bool (a73.add k_63.toNat) fun b74 =>
  BIf (!(b70 == b74)) (
   k (.bool false)) (
   again64 seed_58 steps_59p steps_59l steps_59c a_60p a_60l a_60c b_61p b_61l b_61c i_62 (addI .i64 k_63 1))) (
  again42 seed_58 steps_59p steps_59l steps_59c a_60p a_60l a_60c b_61p b_61l b_61c (addI .i64 i_62 1))
theorem F3_L3_rule {k : Value → W} {again42 : Int → Option Addr → Nat → Nat → Option Addr → Nat → Nat → Option Addr → Nat → Nat → Int → W} (I : Int → Option Addr → Nat → Nat → Option Addr → Nat → Nat → Option Addr → Nat → Nat → Int → Int → W) (μ : Int → Option Addr → Nat → Nat → Option Addr → Nat → Nat → Option Addr → Nat → Nat → Int → Int → World → Nat)
  (hr : ∀ (seed_58 : Int) (steps_59p : Option Addr) (steps_59l : Nat) (steps_59c : Nat) (a_60p : Option Addr) (a_60l : Nat) (a_60c : Nat) (b_61p : Option Addr) (b_61l : Nat) (b_61c : Nat) (i_62 : Int) (k_63 : Int) (w : World), I seed_58 steps_59p steps_59l steps_59c a_60p a_60l a_60c b_61p b_61l b_61c i_62 k_63 w → F3_L3 k again42 (fun seed_58' steps_59p' steps_59l' steps_59c' a_60p' a_60l' a_60c' b_61p' b_61l' b_61c' i_62' k_63' w' => I seed_58' steps_59p' steps_59l' steps_59c' a_60p' a_60l' a_60c' b_61p' b_61l' b_61c' i_62' k_63' w' ∧ μ seed_58' steps_59p' steps_59l' steps_59c' a_60p' a_60l' a_60c' b_61p' b_61l' b_61c' i_62' k_63' w' < μ seed_58 steps_59p steps_59l steps_59c a_60p a_60l a_60c b_61p b_61l b_61c i_62 k_63 w) seed_58 steps_59p steps_59l steps_59c a_60p a_60l a_60c b_61p b_61l b_61c i_62 k_63 w)
  {w : World} {seed_58 : Int} {steps_59p : Option Addr} {steps_59l : Nat} {steps_59c : Nat} {a_60p : Option Addr} {a_60l : Nat} {a_60c : Nat} {b_61p : Option Addr} {b_61l : Nat} {b_61c : Nat} {i_62 : Int} {k_63 : Int} (h : I seed_58 steps_59p steps_59l steps_59c a_60p a_60l a_60c b_61p b_61l b_61c i_62 k_63 w) : Loop [(.int .i64), .slice, .slice, .slice, (.int .i64), (.int .i64)] (F3_L3 k again42) seed_58 steps_59p steps_59l steps_59c a_60p a_60l a_60c b_61p b_61l b_61c i_62 k_63 w :=
  Loop_intro (ts := [(.int .i64), .slice, .slice, .slice, (.int .i64), (.int .i64)]) (s := (seed_58, (steps_59p, steps_59l, steps_59c), (a_60p, a_60l, a_60c), (b_61p, b_61l, b_61c), i_62, k_63, ())) (fun s w => I s.1 s.2.1.1 s.2.1.2.1 s.2.1.2.2 s.2.2.1.1 s.2.2.1.2.1 s.2.2.1.2.2 s.2.2.2.1.1 s.2.2.2.1.2.1 s.2.2.2.1.2.2 s.2.2.2.2.1 s.2.2.2.2.2.1 w) (fun s w => μ s.1 s.2.1.1 s.2.1.2.1 s.2.1.2.2 s.2.2.1.1 s.2.2.1.2.1 s.2.2.1.2.2 s.2.2.2.1.1 s.2.2.2.1.2.1 s.2.2.2.1.2.2 s.2.2.2.2.1 s.2.2.2.2.2.1 w) h (fun s w h => hr s.1 s.2.1.1 s.2.1.2.1 s.2.1.2.2 s.2.2.1.1 s.2.2.1.2.1 s.2.2.1.2.2 s.2.2.2.1.1 s.2.2.2.1.2.1 s.2.2.2.1.2.2 s.2.2.2.2.1 s.2.2.2.2.2.1 w h)
def F3_L2 (k : Value → W) (again42 : Int → Option Addr → Nat → Nat → Option Addr → Nat → Nat → Option Addr → Nat → Nat → Int → W) (seed_37 : Int) (steps_38p : Option Addr) (steps_38l : Nat) (steps_38c : Nat) (a_39p : Option Addr) (a_39l : Nat) (a_39c : Nat) (b_40p : Option Addr) (b_40l : Nat) (b_40c : Nat) (i_41 : Int) : W :=
 BIf (decide (i_41 < ((steps_38l : Nat) : Int))) (
  Drw <|
  NN a_39p fun a43 =>
  Req (0 ≤ i_41 ∧ i_41 < ((a_39l : Nat) : Int)) <|
  LoadT (.int .u64) ((a43.add (i_41.toNat * 4)).add 3) fun x44 =>
  NN b_40p fun a45 =>
  Req (0 ≤ i_41 ∧ i_41 < ((b_40l : Nat) : Int)) <|
  LoadT (.int .u64) ((a45.add (i_41.toNat * 4)).add 3) fun x46 =>
  BIf (x44 != x46) (
   k (.bool false)) (
   NN a_39p fun a47 =>
   Req (0 ≤ i_41 ∧ i_41 < ((a_39l : Nat) : Int)) <|
   LoadT .slice (a47.add (i_41.toNat * 4)) fun s48p s48l s48c =>
   NN b_40p fun a49 =>
   Req (0 ≤ i_41 ∧ i_41 < ((b_40l : Nat) : Int)) <|
   LoadT .slice (a49.add (i_41.toNat * 4)) fun s50p s50l s50c =>
   CallT Go.Proofs.Tryz.prog 10 [.slice s48p s48l s48c] (.s (.one .slice)) fun s51p s51l s51c =>
   Chk1 (a49.add (i_41.toNat * 4)) (.slice s50p s50l s50c) <|
   Chk1 ((a45.add (i_41.toNat * 4)).add 3) (.int .u64 x46) <|
   Chk1 ((a43.add (i_41.toNat * 4)).add 3) (.int .u64 x44) <|
   CallT Go.Proofs.Tryz.prog 10 [.slice s50p s50l s50c] (.s (.one .slice)) fun s52p s52l s52c =>
   Chk1 (a47.add (i_41.toNat * 4)) (.slice s48p s48l s48c) <|
   Chk1 ((a45.add (i_41.toNat * 4)).add 3) (.int .u64 x46) <|
   Chk1 ((a43.add (i_41.toNat * 4)).add 3) (.int .u64 x44) <|
   CallT Go.Proofs.Tryz.prog 9 [.slice s51p s51l s51c, .slice s52p s52l s52c] (.s (.one .bool)) fun b53 =>
   Chk1 (a49.add (i_41.toNat * 4)) (.slice s50p s50l s50c) <|
   Chk1 (a47.add (i_41.toNat * 4)) (.slice s48p s48l s48c) <|
   Chk1 ((a45.add (i_41.toNat * 4)).add 3) (.int .u64 x46) <|
   Chk1 ((a43.add (i_41.toNat * 4)).add 3) (.int .u64 x44) <|
   BIf (!b53) (
    k (.bool false)) (
    NN a_39p fun a54 =>
    Req (0 ≤ i_41 ∧ i_41 < ((a_39l : Nat) : Int)) <|
    LoadT .slice ((a54.add (i_41.toNat * 4)).add 1) fun s55p s55l s55c =>
    NN b_40p fun a56 =>
    Req (0 ≤ i_41 ∧ i_41 < ((b_40l : Nat) : Int)) <|
    LoadT .slice ((a56.add (i_41.toNat * 4)).add 1) fun s57p s57l s57c =>
    BIf (((s55l : Nat) : Int) != ((s57l : Nat) : Int)) (
     k (.bool false)) (
     Loop [(.int .i64), .slice, .slice, .slice, (.int .i64), (.int .i64)] (F3_L3 k again42) seed_37 steps_38p steps_38l steps_38c a_39p a_39l a_39c b_40p b_40l b_40c i_41 0)))) (
  RawT Go.Proofs.Tryz.prog (Instr.buildSlice 28 1 [(0, .int .i64 3)].toArray) (.s (.one .slice)) fun s75p s75l s75c =>
  RawT Go.Proofs.Tryz.prog (Instr.buildSlice 27 1 [(0, .agg #[.slice s75p s75l s75c, .int .i64 7])].toArray) (.s (.one .slice)) fun s76p s76l s76c =>
  RawT Go.Proofs.Tryz.prog (Instr.buildSlice 23 2 [(0, .agg #[.int .i64 1, .int .i64 0, .slice s76p s76l s76c, .slice none 0 0, .slice none 0 0, .int .u64 0, .int .i64 0, .int .i64 0, .int .i64 0]), (1, .agg #[.int .i64 6, .int .i64 0, .slice none 0 0, .slice none 0 0, .slice none 0 0, .int .u64 0, .int .i64 0, .int .i64 0, .int .i64 0])].toArray) (.s (.one .slice)) fun s77p s77l s77c =>
  CallT Go.Proofs.Tryz.prog 7 [.int .u64 1, .int .i64 seed_37, .slice s77p s77l s77c] (.s (.one .slice)) fun s78p s78l s78c =>
  BIf (((s78l : Nat) : Int) == 2) (
   NN s78p fun a79 =>
   Req (0 ≤ (1 : Int) ∧ (1 : Int) < ((s78l : Nat) : Int)) <|
   LoadT (.int .u64) ((a79.add ((1 : Int).toNat * 4)).add 3) fun x80 =>
   k (.bool (x80 == 1))) (
   k (.bool false)))
theorem F3_L2_rule {k : Value → W} (I : Int → Option Addr → Nat → Nat → Option Addr → Nat → Nat → Option Addr → Nat → Nat → Int → W) (μ : Int → Option Addr → Nat → Nat → Option Addr → Nat → Nat → Option Addr → Nat → Nat → Int → World → Nat)
  (hr : ∀ (seed_37 : Int) (steps_38p : Option Addr) (steps_38l : Nat) (steps_38c : Nat) (a_39p : Option Addr) (a_39l : Nat) (a_39c : Nat) (b_40p : Option Addr) (b_40l : Nat) (b_40c : Nat) (i_41 : Int) (w : World), I seed_37 steps_38p steps_38l steps_38c a_39p a_39l a_39c b_40p b_40l b_40c i_41 w → F3_L2 k (fun seed_37' steps_38p' steps_38l' steps_38c' a_39p' a_39l' a_39c' b_40p' b_40l' b_40c' i_41' w' => I seed_37' steps_38p' steps_38l' steps_38c' a_39p' a_39l' a_39c' b_40p' b_40l' b_40c' i_41' w' ∧ μ seed_37' steps_38p' steps_38l' steps_38c' a_39p' a_39l' a_39c' b_40p' b_40l' b_40c' i_41' w' < μ seed_37 steps_38p steps_38l steps_38c a_39p a_39l a_39c b_40p b_40l b_40c i_41 w) seed_37 steps_38p steps_38l steps_38c a_39p a_39l a_39c b_40p b_40l b_40c i_41 w)
  {w : World} {seed_37 : Int} {steps_38p : Option Addr} {steps_38l : Nat} {steps_38c : Nat} {a_39p : Option Addr} {a_39l : Nat} {a_39c : Nat} {b_40p : Option Addr} {b_40l : Nat} {b_40c : Nat} {i_41 : Int} (h : I seed_37 steps_38p steps_38l steps_38c a_39p a_39l a_39c b_40p b_40l b_40c i_41 w) : Loop [(.int .i64), .slice, .slice, .slice, (.int .i64)] (F3_L2 k) seed_37 steps_38p steps_38l steps_38c a_39p a_39l a_39c b_40p b_40l b_40c i_41 w :=
  Loop_intro (ts := [(.int .i64), .slice, .slice, .slice, (.int .i64)]) (s := (seed_37, (steps_38p, steps_38l, steps_38c), (a_39p, a_39l, a_39c), (b_40p, b_40l, b_40c), i_41, ())) (fun s w => I s.1 s.2.1.1 s.2.1.2.1 s.2.1.2.2 s.2.2.1.1 s.2.2.1.2.1 s.2.2.1.2.2 s.2.2.2.1.1 s.2.2.2.1.2.1 s.2.2.2.1.2.2 s.2.2.2.2.1 w) (fun s w => μ s.1 s.2.1.1 s.2.1.2.1 s.2.1.2.2 s.2.2.1.1 s.2.2.1.2.1 s.2.2.1.2.2 s.2.2.2.1.1 s.2.2.2.1.2.1 s.2.2.2.1.2.2 s.2.2.2.2.1 w) h (fun s w h => hr s.1 s.2.1.1 s.2.1.2.1 s.2.1.2.2 s.2.2.1.1 s.2.2.1.2.1 s.2.2.1.2.2 s.2.2.2.1.1 s.2.2.2.1.2.1 s.2.2.2.1.2.2 s.2.2.2.2.1 w h)
def F3_L1 (k : Value → W) (again13 : Int → Int → Option Addr → Nat → Nat → Option Addr → Nat → Nat → Int → W) (seed_8 : Int) (n_9 : Int) (steps_10p : Option Addr) (steps_10l : Nat) (steps_10c : Nat) (asked_11p : Option Addr) (asked_11l : Nat) (asked_11c : Nat) (i_12 : Int) : W :=
 BIf (decide (i_12 < ((steps_10l : Nat) : Int))) (
  NN steps_10p fun a14 =>
  Req (0 ≤ i_12 ∧ i_12 < ((steps_10l : Nat) : Int)) <|
  LoadT (.int .i64) ((a14.add (i_12.toNat * 9)).add 0) fun x15 =>
  LoadT (.int .i64) ((a14.add (i_12.toNat * 9)).add 1) fun x16 =>
  LoadT .slice ((a14.add (i_12.toNat * 9)).add 2) fun s17p s17l s17c =>
  LoadT .slice ((a14.add (i_12.toNat * 9)).add 3) fun s18p s18l s18c =>
  LoadT .slice ((a14.add (i_12.toNat * 9)).add 4) fun s19p s19l s19c =>
  LoadT (.int .u64) ((a14.add (i_12.toNat * 9)).add 5) fun x20 =>
  LoadT (.int .i64) ((a14.add (i_12.toNat * 9)).add 6) fun x21 =>
  LoadT (.int .i64) ((a14.add (i_12.toNat * 9)).add 7) fun x22 =>
  LoadT (.int .i64) ((a14.add (i_12.toNat * 9)).add 8) fun x23 =>
  CallT Go.Proofs.Tryz.prog 6 [.agg #[.int .i64 x15, .int .i64 x16, .slice s17p s17l s17c, .slice s18p s18l s18c, .slice s19p s19l s19c, .int .u64 x20, .int .i64 x21, .int .i64 x22, .int .i64 x23]] (.s (.agg [(.int .i64), (.int .i64), .slice, .slice, .slice, (.int .u64), (.int .i64), (.int .i64), (.int .i64)])) fun x24 x25 s26p s26l s26c s27p s27l s27c s28p s28l s28c x29 x30 x31 x32 =>
  RawT Go.Proofs.Tryz.prog (Instr.buildSlice 23 1 [(0, .agg #[.int .i64 x24, .int .i64 x25, .slice s26p s26l s26c, .slice s27p s27l s27c, .slice s28p s28l s28c, .int .u64 x29, .int .i64 x30, .int .i64 x31, .int .i64 x32])].toArray) (.s (.one .slice)) fun s33p s33l s33c =>
  NextT Go.Proofs.Tryz.prog (builtin .append #[23, 23] 23 [false, false].toArray [.slice asked_11p asked_11l asked_11c, .slice s33p s33l s33c].toArray) (.s (.one .slice)) fun s34p s34l s34c =>
  again13 seed_8 n_9 steps_10p steps_10l steps_10c s34p s34l s34c (addI .i64 i_12 1)) (
  CallT Go.Proofs.Tryz.prog 7 [.int .u64 (IntKind.wrap .u64 n_9), .int .i64 seed_8, .slice steps_10p steps_10l steps_10c] (.s (.one .slice)) fun s35p s35l s35c =>
  CallT Go.Proofs.Tryz.prog 8 [.int .u64 (IntKind.wrap .u64 n_9), .slice asked_11p asked_11l asked_11c] (.s (.one .slice)) fun s36p s36l s36c =>
  BIf (((s35l : Nat) : Int) != ((steps_10l : Nat) : Int)) (
   k (.bool false)) (
   BIf (((s36l : Nat) : Int) != ((steps_10l : Nat) : Int)) (
    k (.bool false)) (
    Loop [(.int .i64), .slice, .slice, .slice, (.int .i64)] (F3_L2 k) seed_8 steps_10p steps_10l steps_10c s35p s35l s35c s36p s36l s36c 0)))
theorem F3_L1_rule {k : Value → W} (I : Int → Int → Option Addr → Nat → Nat → Option Addr → Nat → Nat → Int → W) (μ : Int → Int → Option Addr → Nat → Nat → Option Addr → Nat → Nat → Int → World → Nat)
  (hr : ∀ (seed_8 : Int) (n_9 : Int) (steps_10p : Option Addr) (steps_10l : Nat) (steps_10c : Nat) (asked_11p : Option Addr) (asked_11l : Nat) (asked_11c : Nat) (i_12 : Int) (w : World), I seed_8 n_9 steps_10p steps_10l steps_10c asked_11p asked_11l asked_11c i_12 w → F3_L1 k (fun seed_8' n_9' steps_10p' steps_10l' steps_10c' asked_11p' asked_11l' asked_11c' i_12' w' => I seed_8' n_9' steps_10p' steps_10l' steps_10c' asked_11p' asked_11l' asked_11c' i_12' w' ∧ μ seed_8' n_9' steps_10p' steps_10l' steps_10c' asked_11p' asked_11l' asked_11c' i_12' w' < μ seed_8 n_9 steps_10p steps_10l steps_10c asked_11p asked_11l asked_11c i_12 w) seed_8 n_9 steps_10p steps_10l steps_10c asked_11p asked_11l asked_11c i_12 w)
  {w : World} {seed_8 : Int} {n_9 : Int} {steps_10p : Option Addr} {steps_10l : Nat} {steps_10c : Nat} {asked_11p : Option Addr} {asked_11l : Nat} {asked_11c : Nat} {i_12 : Int} (h : I seed_8 n_9 steps_10p steps_10l steps_10c asked_11p asked_11l asked_11c i_12 w) : Loop [(.int .i64), (.int .i64), .slice, .slice, (.int .i64)] (F3_L1 k) seed_8 n_9 steps_10p steps_10l steps_10c asked_11p asked_11l asked_11c i_12 w :=
  Loop_intro (ts := [(.int .i64), (.int .i64), .slice, .slice, (.int .i64)]) (s := (seed_8, n_9, (steps_10p, steps_10l, steps_10c), (asked_11p, asked_11l, asked_11c), i_12, ())) (fun s w => I s.1 s.2.1 s.2.2.1.1 s.2.2.1.2.1 s.2.2.1.2.2 s.2.2.2.1.1 s.2.2.2.1.2.1 s.2.2.2.1.2.2 s.2.2.2.2.1 w) (fun s w => μ s.1 s.2.1 s.2.2.1.1 s.2.2.1.2.1 s.2.2.1.2.2 s.2.2.2.1.1 s.2.2.2.1.2.1 s.2.2.2.1.2.2 s.2.2.2.2.1 w) h (fun s w h => hr s.1 s.2.1 s.2.2.1.1 s.2.2.1.2.1 s.2.2.1.2.2 s.2.2.2.1.1 s.2.2.2.1.2.1 s.2.2.2.1.2.2 s.2.2.2.2.1 w h)
def F3 (k : Value → W) (dims_1 : Int) (seed_2 : Int) (moves_3p : Option Addr) (moves_3l : Nat) (moves_3c : Nat) : W :=
 BIf (decide (((moves_3l : Nat) : Int) > 2147483647)) (
  k (.bool true)) (
  Req (3 ≠ (0 : Int)) <|
  Bind (addI .i64 1 (remI (IntKind.wrap .i64 dims_1) 3) : Int) fun n_4 =>
  CallT Go.Proofs.Tryz.prog 5 [.slice moves_3p moves_3l moves_3c] (.s (.one .slice)) fun s5p s5l s5c =>
  RawT Go.Proofs.Tryz.prog (Instr.buildSlice 26 7 [(0, .int .i64 1), (1, .int .i64 1), (2, .int .i64 3), (3, .int .i64 1), (4, .int .i64 4), (5, .int .i64 2), (6, .int .i64 6)].toArray) (.s (.one .slice)) fun s6p s6l s6c =>
  CallT Go.Proofs.Tryz.prog 4 [.int .i64 n_4, .slice s5p s5l s5c, .slice s6p s6l s6c] (.s (.one .slice)) fun s7p s7l s7c =>
  Loop [(.int .i64), (.int .i64), .slice, .slice, (.int .i64)] (F3_L1 k) seed_2 n_4 s7p s7l s7c none 0 0 0)
theorem F3_eq (k : Value → W) (dims_1 : Int) (seed_2 : Int) (moves_3p : Option Addr) (moves_3l : Nat) (moves_3c : Nat) : compF Go.Proofs.Tryz.prog Go.Proofs.Tryz.f3 [(7, [(1, (.int .i64)), (7, (.int .i64)), (8, .slice), (9, .slice), (10, (.int .i64))]), (14, [(1, (.int .i64)), (8, .slice), (11, .slice), (12, .slice), (13, (.int .i64))]), (19, [(1, (.int .i64)), (8, .slice), (11, .slice), (12, .slice), (13, (.int .i64)), (14, (.int .i64))])] (Go.Proofs.Tryz.f3.body.getD .skip) [.int .u8 dims_1, .int .i64 seed_2, .slice moves_3p moves_3l moves_3c] k = F3 k dims_1 seed_2 moves_3p moves_3l moves_3c := by kernel_rfl
theorem F3_calls {dims_1 : Int} {seed_2 : Int} {moves_3p : Option Addr} {moves_3l : Nat} {moves_3c : Nat} {w : World} {R : Ending → World → Prop} (h : F3 (fun v w => R (.returned v) w) dims_1 seed_2 moves_3p moves_3l moves_3c w) : Calls Go.Proofs.Tryz.prog 3 #[.int .u8 dims_1, .int .i64 seed_2, .slice moves_3p moves_3l moves_3c] w R :=
  calls_of_compF noNum follows [(7, [(1, (.int .i64)), (7, (.int .i64)), (8, .slice), (9, .slice), (10, (.int .i64))]), (14, [(1, (.int .i64)), (8, .slice), (11, .slice), (12, .slice), (13, (.int .i64))]), (19, [(1, (.int .i64)), (8, .slice), (11, .slice), (12, .slice), (13, (.int .i64)), (14, (.int .i64))])] (f := 3) (fn := Go.Proofs.Tryz.f3) (body := Go.Proofs.Tryz.f3.body.getD .skip) (args := [.int .u8 dims_1, .int .i64 seed_2, .slice moves_3p moves_3l moves_3c]) rfl rfl (Nat.le_of_ble_eq_true rfl) ((congrFun (F3_eq _ dims_1 seed_2 moves_3p moves_3l moves_3c) w).mpr h)
theorem F3_call {dims_1 : Int} {seed_2 : Int} {moves_3p : Option Addr} {moves_3l : Nat} {moves_3c : Nat} {w : World} {g : Fn W (RTy.leaves (.s (.one .bool)))} (h : F3 (fun v => Back (.s (.one .bool)) g (.returned v)) dims_1 seed_2 moves_3p moves_3l moves_3c w) : CallT Go.Proofs.Tryz.prog 3 [.int .u8 dims_1, .int .i64 seed_2, .slice moves_3p moves_3l moves_3c] (.s (.one .bool)) g w := F3_calls h

end Go.Proofs.YtfokodpnoiilbaaGreat.E
