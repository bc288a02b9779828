/-
  Printed by this session's own program eng.py out of Lean's print of the loaded functions: what each function's body asks, in the engine's words; each is checked against the program by the kernel.
-/
import Derived.Test.YtfokodpnoiilbaaGreatEng
import Derived.Test.YtfokodpnoiilbaaGreatFnsA
namespace Go.Proofs.YtfokodpnoiilbaaGreat.E
open Go
set_option linter.unusedVariables false
set_option maxRecDepth 100000
/-! ## skiplist.skipEntry).Compare -/
def F124 (k : Value → W) (se_1 : Int) (other_2 : Value) : W :=
 TAs other_2 143 (.s (.one (.int .u64))) fun x3 =>
 BIf (se_1 == x3) (
  k (.int .i64 0)) (
  BIf (decide (se_1 > x3)) (
   k (.int .i64 1)) (
   k (.int .i64 (-1))))
theorem F124_eq (k : Value → W) (se_1 : Int) (other_2 : Value) : compF Go.Proofs.Tryz.prog Go.Proofs.Tryz.f124 [] (Go.Proofs.Tryz.f124.body.getD .skip) [.int .u64 se_1, other_2] k = F124 k se_1 other_2 := by kernel_rfl
theorem F124_calls {se_1 : Int} {other_2 : Value} {w : World} {R : Ending → World → Prop} (h : F124 (fun v w => R (.returned v) w) se_1 other_2 w) : Calls Go.Proofs.Tryz.prog 124 #[.int .u64 se_1, other_2] w R :=
  calls_of_compF noNum follows [] (f := 124) (fn := Go.Proofs.Tryz.f124) (body := Go.Proofs.Tryz.f124.body.getD .skip) (args := [.int .u64 se_1, other_2]) rfl rfl (Nat.le_of_ble_eq_true rfl) ((congrFun (F124_eq _ se_1 other_2) w).mpr h)
theorem F124_call {se_1 : Int} {other_2 : Value} {w : World} {g : Fn W (RTy.leaves (.s (.one (.int .i64))))} (h : F124 (fun v => Back (.s (.one (.int .i64))) g (.returned v)) se_1 other_2 w) : CallT Go.Proofs.Tryz.prog 124 [.int .u64 se_1, other_2] (.s (.one (.int .i64))) g w := F124_calls h

/-! ## skiplist.skipEntry).key -/
def F125 (k : Value → W) (se_1 : Int) : W :=
 k (.int .u64 se_1)
theorem F125_eq (k : Value → W) (se_1 : Int) : compF Go.Proofs.Tryz.prog Go.Proofs.Tryz.f125 [] (Go.Proofs.Tryz.f125.body.getD .skip) [.int .u64 se_1] k = F125 k se_1 := by kernel_rfl
theorem F125_calls {se_1 : Int} {w : World} {R : Ending → World → Prop} (h : F125 (fun v w => R (.returned v) w) se_1 w) : Calls Go.Proofs.Tryz.prog 125 #[.int .u64 se_1] w R :=
  calls_of_compF noNum follows [] (f := 125) (fn := Go.Proofs.Tryz.f125) (body := Go.Proofs.Tryz.f125.body.getD .skip) (args := [.int .u64 se_1]) rfl rfl (Nat.le_of_ble_eq_true rfl) ((congrFun (F125_eq _ se_1) w).mpr h)
theorem F125_call {se_1 : Int} {w : World} {g : Fn W (RTy.leaves (.s (.one (.int .u64))))} (h : F125 (fun v => Back (.s (.one (.int .u64))) g (.returned v)) se_1 w) : CallT Go.Proofs.Tryz.prog 125 [.int .u64 se_1] (.s (.one (.int .u64))) g w := F125_calls h

/-! ## skiplist.dimensionalBundle).Compare -/
def F120 (k : Value → W) (db_1 : Option Addr) (e_2 : Value) : W :=
 RawS Go.Proofs.Tryz.prog (Instr.typeAssert e_2 115 155 false) (.s (.one .any)) fun v3 =>
 Drw <|
 NN db_1 fun a4 =>
 LoadT (.int .u64) a4 fun x5 =>
 NextT Go.Proofs.Tryz.prog (callMethod v3 "given.example/pub-spokeshave/pub/godatastructures/rangetree/skiplist.key" [].toArray) (.s (.one (.int .u64))) fun x6 =>
 Chk1 a4 (.int .u64 x5) <|
 BIf (x5 == x6) (
  k (.int .i64 0)) (
  Drw <|
  NN db_1 fun a7 =>
  LoadT (.int .u64) a7 fun x8 =>
  NextT Go.Proofs.Tryz.prog (callMethod v3 "given.example/pub-spokeshave/pub/godatastructures/rangetree/skiplist.key" [].toArray) (.s (.one (.int .u64))) fun x9 =>
  Chk1 a7 (.int .u64 x8) <|
  BIf (decide (x8 > x9)) (
   k (.int .i64 1)) (
   k (.int .i64 (-1))))
theorem F120_eq (k : Value → W) (db_1 : Option Addr) (e_2 : Value) : compF Go.Proofs.Tryz.prog Go.Proofs.Tryz.f120 [] (Go.Proofs.Tryz.f120.body.getD .skip) [.pointer db_1, e_2] k = F120 k db_1 e_2 := by kernel_rfl
theorem F120_calls {db_1 : Option Addr} {e_2 : Value} {w : World} {R : Ending → World → Prop} (h : F120 (fun v w => R (.returned v) w) db_1 e_2 w) : Calls Go.Proofs.Tryz.prog 120 #[.pointer db_1, e_2] w R :=
  calls_of_compF noNum follows [] (f := 120) (fn := Go.Proofs.Tryz.f120) (body := Go.Proofs.Tryz.f120.body.getD .skip) (args := [.pointer db_1, e_2]) rfl rfl (Nat.le_of_ble_eq_true rfl) ((congrFun (F120_eq _ db_1 e_2) w).mpr h)
theorem F120_call {db_1 : Option Addr} {e_2 : Value} {w : World} {g : Fn W (RTy.leaves (.s (.one (.int .i64))))} (h : F120 (fun v => Back (.s (.one (.int .i64))) g (.returned v)) db_1 e_2 w) : CallT Go.Proofs.Tryz.prog 120 [.pointer db_1, e_2] (.s (.one (.int .i64))) g w := F120_calls h

/-! ## skiplist.dimensionalBundle).key -/
def F121 (k : Value → W) (db_1 : Option Addr) : W :=
 NN db_1 fun a2 =>
 LoadT (.int .u64) a2 fun x3 =>
 k (.int .u64 x3)
theorem F121_eq (k : Value → W) (db_1 : Option Addr) : compF Go.Proofs.Tryz.prog Go.Proofs.Tryz.f121 [] (Go.Proofs.Tryz.f121.body.getD .skip) [.pointer db_1] k = F121 k db_1 := by kernel_rfl
theorem F121_calls {db_1 : Option Addr} {w : World} {R : Ending → World → Prop} (h : F121 (fun v w => R (.returned v) w) db_1 w) : Calls Go.Proofs.Tryz.prog 121 #[.pointer db_1] w R :=
  calls_of_compF noNum follows [] (f := 121) (fn := Go.Proofs.Tryz.f121) (body := Go.Proofs.Tryz.f121.body.getD .skip) (args := [.pointer db_1]) rfl rfl (Nat.le_of_ble_eq_true rfl) ((congrFun (F121_eq _ db_1) w).mpr h)
theorem F121_call {db_1 : Option Addr} {w : World} {g : Fn W (RTy.leaves (.s (.one (.int .u64))))} (h : F121 (fun v => Back (.s (.one (.int .u64))) g (.returned v)) db_1 w) : CallT Go.Proofs.Tryz.prog 121 [.pointer db_1] (.s (.one (.int .u64))) g w := F121_calls h

/-! ## skiplist.lastBundle).Compare -/
def F122 (k : Value → W) (lb_1 : Option Addr) (e_2 : Value) : W :=
 RawS Go.Proofs.Tryz.prog (Instr.typeAssert e_2 115 155 false) (.s (.one .any)) fun v3 =>
 Drw <|
 NN lb_1 fun a4 =>
 LoadT (.int .u64) a4 fun x5 =>
 NextT Go.Proofs.Tryz.prog (callMethod v3 "given.example/pub-spokeshave/pub/godatastructures/rangetree/skiplist.key" [].toArray) (.s (.one (.int .u64))) fun x6 =>
 Chk1 a4 (.int .u64 x5) <|
 BIf (x5 == x6) (
  k (.int .i64 0)) (
  Drw <|
  NN lb_1 fun a7 =>
  LoadT (.int .u64) a7 fun x8 =>
  NextT Go.Proofs.Tryz.prog (callMethod v3 "given.example/pub-spokeshave/pub/godatastructures/rangetree/skiplist.key" [].toArray) (.s (.one (.int .u64))) fun x9 =>
  Chk1 a7 (.int .u64 x8) <|
  BIf (decide (x8 > x9)) (
   k (.int .i64 1)) (
   k (.int .i64 (-1))))
theorem F122_eq (k : Value → W) (lb_1 : Option Addr) (e_2 : Value) : compF Go.Proofs.Tryz.prog Go.Proofs.Tryz.f122 [] (Go.Proofs.Tryz.f122.body.getD .skip) [.pointer lb_1, e_2] k = F122 k lb_1 e_2 := by kernel_rfl
theorem F122_calls {lb_1 : Option Addr} {e_2 : Value} {w : World} {R : Ending → World → Prop} (h : F122 (fun v w => R (.returned v) w) lb_1 e_2 w) : Calls Go.Proofs.Tryz.prog 122 #[.pointer lb_1, e_2] w R :=
  calls_of_compF noNum follows [] (f := 122) (fn := Go.Proofs.Tryz.f122) (body := Go.Proofs.Tryz.f122.body.getD .skip) (args := [.pointer lb_1, e_2]) rfl rfl (Nat.le_of_ble_eq_true rfl) ((congrFun (F122_eq _ lb_1 e_2) w).mpr h)
theorem F122_call {lb_1 : Option Addr} {e_2 : Value} {w : World} {g : Fn W (RTy.leaves (.s (.one (.int .i64))))} (h : F122 (fun v => Back (.s (.one (.int .i64))) g (.returned v)) lb_1 e_2 w) : CallT Go.Proofs.Tryz.prog 122 [.pointer lb_1, e_2] (.s (.one (.int .i64))) g w := F122_calls h

/-! ## skiplist.lastBundle).key -/
def F123 (k : Value → W) (lb_1 : Option Addr) : W :=
 NN lb_1 fun a2 =>
 LoadT (.int .u64) a2 fun x3 =>
 k (.int .u64 x3)
theorem F123_eq (k : Value → W) (lb_1 : Option Addr) : compF Go.Proofs.Tryz.prog Go.Proofs.Tryz.f123 [] (Go.Proofs.Tryz.f123.body.getD .skip) [.pointer lb_1] k = F123 k lb_1 := by kernel_rfl
theorem F123_calls {lb_1 : Option Addr} {w : World} {R : Ending → World → Prop} (h : F123 (fun v w => R (.returned v) w) lb_1 w) : Calls Go.Proofs.Tryz.prog 123 #[.pointer lb_1] w R :=
  calls_of_compF noNum follows [] (f := 123) (fn := Go.Proofs.Tryz.f123) (body := Go.Proofs.Tryz.f123.body.getD .skip) (args := [.pointer lb_1]) rfl rfl (Nat.le_of_ble_eq_true rfl) ((congrFun (F123_eq _ lb_1) w).mpr h)
theorem F123_call {lb_1 : Option Addr} {w : World} {g : Fn W (RTy.leaves (.s (.one (.int .u64))))} (h : F123 (fun v => Back (.s (.one (.int .u64))) g (.returned v)) lb_1 w) : CallT Go.Proofs.Tryz.prog 123 [.pointer lb_1] (.s (.one (.int .u64))) g w := F123_calls h

/-! ## skiplist.isLastDimension -/
def F64 (k : Value → W) (dimension_1 : Int) (lastDimension_2 : Int) : W :=
 BIf (decide (dimension_1 ≥ lastDimension_2)) (
  bot) (
  Bind (dimension_1 == (subI .u64 lastDimension_2 1)) fun y3 =>
  k (.bool y3))
theorem F64_eq (k : Value → W) (dimension_1 : Int) (lastDimension_2 : Int) : compF Go.Proofs.Tryz.prog Go.Proofs.Tryz.f64 [] (Go.Proofs.Tryz.f64.body.getD .skip) [.int .u64 dimension_1, .int .u64 lastDimension_2] k = F64 k dimension_1 lastDimension_2 := by kernel_rfl
theorem F64_calls {dimension_1 : Int} {lastDimension_2 : Int} {w : World} {R : Ending → World → Prop} (h : F64 (fun v w => R (.returned v) w) dimension_1 lastDimension_2 w) : Calls Go.Proofs.Tryz.prog 64 #[.int .u64 dimension_1, .int .u64 lastDimension_2] w R :=
  calls_of_compF noNum follows [] (f := 64) (fn := Go.Proofs.Tryz.f64) (body := Go.Proofs.Tryz.f64.body.getD .skip) (args := [.int .u64 dimension_1, .int .u64 lastDimension_2]) rfl rfl (Nat.le_of_ble_eq_true rfl) ((congrFun (F64_eq _ dimension_1 lastDimension_2) w).mpr h)
theorem F64_call {dimension_1 : Int} {lastDimension_2 : Int} {w : World} {g : Fn W (RTy.leaves (.s (.one .bool)))} (h : F64 (fun v => Back (.s (.one .bool)) g (.returned v)) dimension_1 lastDimension_2 w) : CallT Go.Proofs.Tryz.prog 64 [.int .u64 dimension_1, .int .u64 lastDimension_2] (.s (.one .bool)) g w := F64_calls h

/-! ## impl.place -/
def F84 (k : Value → W) (l_1p : Option Addr) (l_1l : Nat) (l_1c : Nat) (d_2 : Int) : W :=
 BIf (decide (d_2 < 1)) (
  k (.int .i64 0)) (
  BIf (decide (d_2 > (IntKind.wrap .u64 ((l_1l : Nat) : Int)))) (
   k (.int .i64 0)) (
   NN l_1p fun a3 =>
   Req (0 ≤ subI .u64 d_2 1 ∧ subI .u64 d_2 1 < ((l_1l : Nat) : Int)) <|
   LoadT (.int .i64) (a3.add ((subI .u64 d_2 1).toNat)) fun x4 =>
   k (.int .i64 x4)))
theorem F84_eq (k : Value → W) (l_1p : Option Addr) (l_1l : Nat) (l_1c : Nat) (d_2 : Int) : compF Go.Proofs.Tryz.prog Go.Proofs.Tryz.f84 [] (Go.Proofs.Tryz.f84.body.getD .skip) [.slice l_1p l_1l l_1c, .int .u64 d_2] k = F84 k l_1p l_1l l_1c d_2 := by kernel_rfl
theorem F84_calls {l_1p : Option Addr} {l_1l : Nat} {l_1c : Nat} {d_2 : Int} {w : World} {R : Ending → World → Prop} (h : F84 (fun v w => R (.returned v) w) l_1p l_1l l_1c d_2 w) : Calls Go.Proofs.Tryz.prog 84 #[.slice l_1p l_1l l_1c, .int .u64 d_2] w R :=
  calls_of_compF noNum follows [] (f := 84) (fn := Go.Proofs.Tryz.f84) (body := Go.Proofs.Tryz.f84.body.getD .skip) (args := [.slice l_1p l_1l l_1c, .int .u64 d_2]) rfl rfl (Nat.le_of_ble_eq_true rfl) ((congrFun (F84_eq _ l_1p l_1l l_1c d_2) w).mpr h)
theorem F84_call {l_1p : Option Addr} {l_1l : Nat} {l_1c : Nat} {d_2 : Int} {w : World} {g : Fn W (RTy.leaves (.s (.one (.int .i64))))} (h : F84 (fun v => Back (.s (.one (.int .i64))) g (.returned v)) l_1p l_1l l_1c d_2 w) : CallT Go.Proofs.Tryz.prog 84 [.slice l_1p l_1l l_1c, .int .u64 d_2] (.s (.one (.int .i64))) g w := F84_calls h

/-! ## impl.spot).ValueAtDimension -/
def F117 (k : Value → W) (s1p : Option Addr) (s1l : Nat) (s1c : Nat) (x2 : Int) (d_3 : Int) : W :=
 New [.slice s1p s1l s1c, .int .i64 x2] 91 fun n4 =>
 LoadT .slice ⟨n4, 0, none⟩ fun s5p s5l s5c =>
 CallT Go.Proofs.Tryz.prog 84 [.slice s5p s5l s5c, .int .u64 (addI .u64 d_3 1)] (.s (.one (.int .i64))) fun x6 =>
 k (.int .i64 x6)
theorem F117_eq (k : Value → W) (s1p : Option Addr) (s1l : Nat) (s1c : Nat) (x2 : Int) (d_3 : Int) : compF Go.Proofs.Tryz.prog Go.Proofs.Tryz.f117 [] (Go.Proofs.Tryz.f117.body.getD .skip) [.agg #[.slice s1p s1l s1c, .int .i64 x2], .int .u64 d_3] k = F117 k s1p s1l s1c x2 d_3 := by kernel_rfl
theorem F117_calls {s1p : Option Addr} {s1l : Nat} {s1c : Nat} {x2 : Int} {d_3 : Int} {w : World} {R : Ending → World → Prop} (h : F117 (fun v w => R (.returned v) w) s1p s1l s1c x2 d_3 w) : Calls Go.Proofs.Tryz.prog 117 #[.agg #[.slice s1p s1l s1c, .int .i64 x2], .int .u64 d_3] w R :=
  calls_of_compF noNum follows [] (f := 117) (fn := Go.Proofs.Tryz.f117) (body := Go.Proofs.Tryz.f117.body.getD .skip) (args := [.agg #[.slice s1p s1l s1c, .int .i64 x2], .int .u64 d_3]) rfl rfl (Nat.le_of_ble_eq_true rfl) ((congrFun (F117_eq _ s1p s1l s1c x2 d_3) w).mpr h)
theorem F117_call {s1p : Option Addr} {s1l : Nat} {s1c : Nat} {x2 : Int} {d_3 : Int} {w : World} {g : Fn W (RTy.leaves (.s (.one (.int .i64))))} (h : F117 (fun v => Back (.s (.one (.int .i64))) g (.returned v)) s1p s1l s1c x2 d_3 w) : CallT Go.Proofs.Tryz.prog 117 [.agg #[.slice s1p s1l s1c, .int .i64 x2], .int .u64 d_3] (.s (.one (.int .i64))) g w := F117_calls h

/-! ## skiplist.skipListRT).add -/
def F57_J1 (k : Value → W) (again10 : Option Addr → Value → Value → Option Addr → Int → W) (rt_38 : Option Addr) (entry_39 : Value) (v40 : Value) (db_41 : Option Addr) (i_42 : Int) : W :=
 NN db_41 fun a43 =>
 LoadT .ptr (a43.add 1) fun p44 =>
 again10 rt_38 entry_39 v40 p44 (addI .u64 i_42 1)
def F57_L1 (k : Value → W) (again10 : Option Addr → Value → Value → Option Addr → Int → W) (rt_5 : Option Addr) (entry_6 : Value) (v7 : Value) (sl_8 : Option Addr) (i_9 : Int) : W :=
 NN rt_5 fun a11 =>
 LoadT (.int .u64) (a11.add 1) fun x12 =>
 BIf (decide (i_9 < x12)) (
  NextT Go.Proofs.Tryz.prog (callMethod entry_6 "ValueAtDimension" [.int .u64 i_9].toArray) (.s (.one (.int .i64))) fun x13 =>
  RawT Go.Proofs.Tryz.prog (Instr.buildSlice 140 1 [(0, .iface 143 (.int .u64 (IntKind.wrap .u64 x13)))].toArray) (.s (.one .slice)) fun s14p s14l s14c =>
  CallT Go.Proofs.Tryz.prog 63 [.pointer sl_8, .slice s14p s14l s14c] (.s (.one .slice)) fun s15p s15l s15c =>
  NN s15p fun a16 =>
  Req (0 ≤ (0 : Int) ∧ (0 : Int) < ((s15l : Nat) : Int)) <|
  LoadT .any (a16.add ((0 : Int).toNat)) fun v17 =>
  NN rt_5 fun a18 =>
  LoadT (.int .u64) (a18.add 1) fun x19 =>
  CallT Go.Proofs.Tryz.prog 64 [.int .u64 i_9, .int .u64 x19] (.s (.one .bool)) fun b20 =>
  BIf b20 (
   IfaceNil v17 fun b21 =>
   BIf (!b21) (
    TAs v17 138 (.s (.one .ptr)) fun p22 =>
    NN p22 fun a23 =>
    LoadT .any (a23.add 1) fun v24 =>
    NN p22 fun a25 =>
    Req (oneC entry_6 = true) <|
    Store1 (a25.add 1) entry_6 <|
    k v24) (
    Req (oneC entry_6 = true) <|
    New [.int .u64 (IntKind.wrap .u64 x13), entry_6] 146 fun n26 =>
    NN rt_5 fun a27 =>
    LoadT (.int .u64) (a27.add 2) fun x28 =>
    Store1 (a27.add 2) (.int .u64 (addI .u64 x28 1)) <|
    RawT Go.Proofs.Tryz.prog (Instr.buildSlice 140 1 [(0, .iface 138 (.pointer (some ⟨n26, 0, none⟩)))].toArray) (.s (.one .slice)) fun s29p s29l s29c =>
    CallT Go.Proofs.Tryz.prog 65 [.pointer sl_8, .slice s29p s29l s29c] (.s (.one .slice)) fun s30p s30l s30c =>
    k .nilIface)) (
   IfaceNil v17 fun b31 =>
   BIf b31 (
    NN rt_5 fun a32 =>
    LoadT (.int .u64) (a32.add 3) fun x33 =>
    CallT Go.Proofs.Tryz.prog 29 [.iface 29 (.int .u64 0), .int .u64 x33] (.s (.one .ptr)) fun p34 =>
    New [.int .u64 (IntKind.wrap .u64 x13), .pointer p34] 148 fun n35 =>
    RawT Go.Proofs.Tryz.prog (Instr.buildSlice 140 1 [(0, .iface 137 (.pointer (some ⟨n35, 0, none⟩)))].toArray) (.s (.one .slice)) fun s36p s36l s36c =>
    CallT Go.Proofs.Tryz.prog 65 [.pointer sl_8, .slice s36p s36l s36c] (.s (.one .slice)) fun s37p s37l s37c =>
    F57_J1 k again10 rt_5 entry_6 v7 (some ⟨n35, 0, none⟩) i_9) (
    TAs v17 137 (.s (.one .ptr)) fun p45 =>
    F57_J1 k again10 rt_5 entry_6 v7 p45 i_9))) (
  bot)
theorem F57_L1_rule {k : Value → W} (I : Option Addr → Value → Value → Option Addr → Int → W) (μ : Option Addr → Value → Value → Option Addr → Int → World → Nat)
  (hr : ∀ (rt_5 : Option Addr) (entry_6 : Value) (v7 : Value) (sl_8 : Option Addr) (i_9 : Int) (w : World), I rt_5 entry_6 v7 sl_8 i_9 w → F57_L1 k (fun rt_5' entry_6' v7' sl_8' i_9' w' => I rt_5' entry_6' v7' sl_8' i_9' w' ∧ μ rt_5' entry_6' v7' sl_8' i_9' w' < μ rt_5 entry_6 v7 sl_8 i_9 w) rt_5 entry_6 v7 sl_8 i_9 w)
  {w : World} {rt_5 : Option Addr} {entry_6 : Value} {v7 : Value} {sl_8 : Option Addr} {i_9 : Int} (h : I rt_5 entry_6 v7 sl_8 i_9 w) : Loop [.ptr, .any, .any, .ptr, (.int .u64)] (F57_L1 k) rt_5 entry_6 v7 sl_8 i_9 w :=
  Loop_intro (ts := [.ptr, .any, .any, .ptr, (.int .u64)]) (s := (rt_5, entry_6, v7, sl_8, i_9, ())) (fun s w => I s.1 s.2.1 s.2.2.1 s.2.2.2.1 s.2.2.2.2.1 w) (fun s w => μ s.1 s.2.1 s.2.2.1 s.2.2.2.1 s.2.2.2.2.1 w) h (fun s w h => hr s.1 s.2.1 s.2.2.1 s.2.2.2.1 s.2.2.2.2.1 w h)
def F57 (k : Value → W) (rt_1 : Option Addr) (entry_2 : Value) : W :=
 NN rt_1 fun a3 =>
 LoadT .ptr a3 fun p4 =>
 Loop [.ptr, .any, .any, .ptr, (.int .u64)] (F57_L1 k) rt_1 entry_2 .nilIface p4 0
theorem F57_eq (k : Value → W) (rt_1 : Option Addr) (entry_2 : Value) : compF Go.Proofs.Tryz.prog Go.Proofs.Tryz.f57 [(7, [(0, .ptr), (1, .any), (4, .any), (7, .ptr), (10, (.int .u64))])] (Go.Proofs.Tryz.f57.body.getD .skip) [.pointer rt_1, entry_2] k = F57 k rt_1 entry_2 := by kernel_rfl
theorem F57_calls {rt_1 : Option Addr} {entry_2 : Value} {w : World} {R : Ending → World → Prop} (h : F57 (fun v w => R (.returned v) w) rt_1 entry_2 w) : Calls Go.Proofs.Tryz.prog 57 #[.pointer rt_1, entry_2] w R :=
  calls_of_compF noNum follows [(7, [(0, .ptr), (1, .any), (4, .any), (7, .ptr), (10, (.int .u64))])] (f := 57) (fn := Go.Proofs.Tryz.f57) (body := Go.Proofs.Tryz.f57.body.getD .skip) (args := [.pointer rt_1, entry_2]) rfl rfl (Nat.le_of_ble_eq_true rfl) ((congrFun (F57_eq _ rt_1 entry_2) w).mpr h)
theorem F57_call {rt_1 : Option Addr} {entry_2 : Value} {w : World} {g : Fn W (RTy.leaves (.s (.one .any)))} (h : F57 (fun v => Back (.s (.one .any)) g (.returned v)) rt_1 entry_2 w) : CallT Go.Proofs.Tryz.prog 57 [.pointer rt_1, entry_2] (.s (.one .any)) g w := F57_calls h

/-! ## skiplist.skipListRT).Add -/
def F50_L1 (k : Value → W) (again9 : Option Addr → Option Addr → Nat → Nat → Option Addr → Nat → Nat → Int → Int → W) (rt_4 : Option Addr) (overwritten_5p : Option Addr) (overwritten_5l : Nat) (overwritten_5c : Nat) (s6p : Option Addr) (s6l : Nat) (s6c : Nat) (x7 : Int) (x8 : Int) : W :=
 BIf (decide (x8 < x7)) (
  NN s6p fun a10 =>
  Req (0 ≤ x8 ∧ x8 < ((s6l : Nat) : Int)) <|
  LoadT .any (a10.add x8.toNat) fun v11 =>
  CallT Go.Proofs.Tryz.prog 57 [.pointer rt_4, v11] (.s (.one .any)) fun v12 =>
  NN overwritten_5p fun a13 =>
  Req (0 ≤ x8 ∧ x8 < ((overwritten_5l : Nat) : Int)) <|
  Req (oneC v12 = true) <|
  Store1 (a13.add x8.toNat) v12 <|
  again9 rt_4 overwritten_5p overwritten_5l overwritten_5c s6p s6l s6c x7 (addI .i64 x8 1)) (
  k (.slice overwritten_5p overwritten_5l overwritten_5c))
theorem F50_L1_rule {k : Value → W} (I : Option Addr → Option Addr → Nat → Nat → Option Addr → Nat → Nat → Int → Int → W) (μ : Option Addr → Option Addr → Nat → Nat → Option Addr → Nat → Nat → Int → Int → World → Nat)
  (hr : ∀ (rt_4 : Option Addr) (overwritten_5p : Option Addr) (overwritten_5l : Nat) (overwritten_5c : Nat) (s6p : Option Addr) (s6l : Nat) (s6c : Nat) (x7 : Int) (x8 : Int) (w : World), I rt_4 overwritten_5p overwritten_5l overwritten_5c s6p s6l s6c x7 x8 w → F50_L1 k (fun rt_4' overwritten_5p' overwritten_5l' overwritten_5c' s6p' s6l' s6c' x7' x8' w' => I rt_4' overwritten_5p' overwritten_5l' overwritten_5c' s6p' s6l' s6c' x7' x8' w' ∧ μ rt_4' overwritten_5p' overwritten_5l' overwritten_5c' s6p' s6l' s6c' x7' x8' w' < μ rt_4 overwritten_5p overwritten_5l overwritten_5c s6p s6l s6c x7 x8 w) rt_4 overwritten_5p overwritten_5l overwritten_5c s6p s6l s6c x7 x8 w)
  {w : World} {rt_4 : Option Addr} {overwritten_5p : Option Addr} {overwritten_5l : Nat} {overwritten_5c : Nat} {s6p : Option Addr} {s6l : Nat} {s6c : Nat} {x7 : Int} {x8 : Int} (h : I rt_4 overwritten_5p overwritten_5l overwritten_5c s6p s6l s6c x7 x8 w) : Loop [.ptr, .slice, .slice, (.int .i64), (.int .i64)] (F50_L1 k) rt_4 overwritten_5p overwritten_5l overwritten_5c s6p s6l s6c x7 x8 w :=
  Loop_intro (ts := [.ptr, .slice, .slice, (.int .i64), (.int .i64)]) (s := (rt_4, (overwritten_5p, overwritten_5l, overwritten_5c), (s6p, s6l, s6c), x7, x8, ())) (fun s w => I s.1 s.2.1.1 s.2.1.2.1 s.2.1.2.2 s.2.2.1.1 s.2.2.1.2.1 s.2.2.1.2.2 s.2.2.2.1 s.2.2.2.2.1 w) (fun s w => μ s.1 s.2.1.1 s.2.1.2.1 s.2.1.2.2 s.2.2.1.1 s.2.2.1.2.1 s.2.2.1.2.2 s.2.2.2.1 s.2.2.2.2.1 w) h (fun s w h => hr s.1 s.2.1.1 s.2.1.2.1 s.2.1.2.2 s.2.2.1.1 s.2.2.1.2.1 s.2.2.1.2.2 s.2.2.2.1 s.2.2.2.2.1 w h)
def F50 (k : Value → W) (rt_1 : Option Addr) (entries_2p : Option Addr) (entries_2l : Nat) (entries_2c : Nat) : W :=
 RawT Go.Proofs.Tryz.prog (Instr.makeSlice 70 (.int .i64 ((entries_2l : Nat) : Int)) (.int .i64 ((entries_2l : Nat) : Int))) (.s (.one .slice)) fun s3p s3l s3c =>
 Loop [.ptr, .slice, .slice, (.int .i64), (.int .i64)] (F50_L1 k) rt_1 s3p s3l s3c entries_2p entries_2l entries_2c ((entries_2l : Nat) : Int) 0
theorem F50_eq (k : Value → W) (rt_1 : Option Addr) (entries_2p : Option Addr) (entries_2l : Nat) (entries_2c : Nat) : compF Go.Proofs.Tryz.prog Go.Proofs.Tryz.f50 [(3, [(0, .ptr), (5, .slice), (11, .slice), (12, (.int .i64)), (13, (.int .i64))])] (Go.Proofs.Tryz.f50.body.getD .skip) [.pointer rt_1, .slice entries_2p entries_2l entries_2c] k = F50 k rt_1 entries_2p entries_2l entries_2c := by kernel_rfl
theorem F50_calls {rt_1 : Option Addr} {entries_2p : Option Addr} {entries_2l : Nat} {entries_2c : Nat} {w : World} {R : Ending → World → Prop} (h : F50 (fun v w => R (.returned v) w) rt_1 entries_2p entries_2l entries_2c w) : Calls Go.Proofs.Tryz.prog 50 #[.pointer rt_1, .slice entries_2p entries_2l entries_2c] w R :=
  calls_of_compF noNum follows [(3, [(0, .ptr), (5, .slice), (11, .slice), (12, (.int .i64)), (13, (.int .i64))])] (f := 50) (fn := Go.Proofs.Tryz.f50) (body := Go.Proofs.Tryz.f50.body.getD .skip) (args := [.pointer rt_1, .slice entries_2p entries_2l entries_2c]) rfl rfl (Nat.le_of_ble_eq_true rfl) ((congrFun (F50_eq _ rt_1 entries_2p entries_2l entries_2c) w).mpr h)
theorem F50_call {rt_1 : Option Addr} {entries_2p : Option Addr} {entries_2l : Nat} {entries_2c : Nat} {w : World} {g : Fn W (RTy.leaves (.s (.one .slice)))} (h : F50 (fun v => Back (.s (.one .slice)) g (.returned v)) rt_1 entries_2p entries_2l entries_2c w) : CallT Go.Proofs.Tryz.prog 50 [.pointer rt_1, .slice entries_2p entries_2l entries_2c] (.s (.one .slice)) g w := F50_calls h

/-! ## skiplist.skipListRT).get -/
def F60_L1 (k : Value → W) (again10 : Option Addr → Value → Value → Option Addr → Int → W) (rt_5 : Option Addr) (entry_6 : Value) (v7 : Value) (sl_8 : Option Addr) (i_9 : Int) : W :=
 NN rt_5 fun a11 =>
 LoadT (.int .u64) (a11.add 1) fun x12 =>
 BIf (decide (i_9 < x12)) (
  NextT Go.Proofs.Tryz.prog (callMethod entry_6 "ValueAtDimension" [.int .u64 i_9].toArray) (.s (.one (.int .i64))) fun x13 =>
  RawT Go.Proofs.Tryz.prog (Instr.buildSlice 140 1 [(0, .iface 143 (.int .u64 (IntKind.wrap .u64 x13)))].toArray) (.s (.one .slice)) fun s14p s14l s14c =>
  CallT Go.Proofs.Tryz.prog 63 [.pointer sl_8, .slice s14p s14l s14c] (.s (.one .slice)) fun s15p s15l s15c =>
  NN s15p fun a16 =>
  Req (0 ≤ (0 : Int) ∧ (0 : Int) < ((s15l : Nat) : Int)) <|
  LoadT .any (a16.add ((0 : Int).toNat)) fun v17 =>
  IfaceNil v17 fun b18 =>
  BIf b18 (
   k .nilIface) (
   NN rt_5 fun a19 =>
   LoadT (.int .u64) (a19.add 1) fun x20 =>
   CallT Go.Proofs.Tryz.prog 64 [.int .u64 i_9, .int .u64 x20] (.s (.one .bool)) fun b21 =>
   BIf b21 (
    TAs v17 138 (.s (.one .ptr)) fun p22 =>
    NN p22 fun a23 =>
    LoadT .any (a23.add 1) fun v24 =>
    k v24) (
    TAs v17 137 (.s (.one .ptr)) fun p25 =>
    NN p25 fun a26 =>
    LoadT .ptr (a26.add 1) fun p27 =>
    again10 rt_5 entry_6 v7 p27 (addI .u64 i_9 1)))) (
  bot)
theorem F60_L1_rule {k : Value → W} (I : Option Addr → Value → Value → Option Addr → Int → W) (μ : Option Addr → Value → Value → Option Addr → Int → World → Nat)
  (hr : ∀ (rt_5 : Option Addr) (entry_6 : Value) (v7 : Value) (sl_8 : Option Addr) (i_9 : Int) (w : World), I rt_5 entry_6 v7 sl_8 i_9 w → F60_L1 k (fun rt_5' entry_6' v7' sl_8' i_9' w' => I rt_5' entry_6' v7' sl_8' i_9' w' ∧ μ rt_5' entry_6' v7' sl_8' i_9' w' < μ rt_5 entry_6 v7 sl_8 i_9 w) rt_5 entry_6 v7 sl_8 i_9 w)
  {w : World} {rt_5 : Option Addr} {entry_6 : Value} {v7 : Value} {sl_8 : Option Addr} {i_9 : Int} (h : I rt_5 entry_6 v7 sl_8 i_9 w) : Loop [.ptr, .any, .any, .ptr, (.int .u64)] (F60_L1 k) rt_5 entry_6 v7 sl_8 i_9 w :=
  Loop_intro (ts := [.ptr, .any, .any, .ptr, (.int .u64)]) (s := (rt_5, entry_6, v7, sl_8, i_9, ())) (fun s w => I s.1 s.2.1 s.2.2.1 s.2.2.2.1 s.2.2.2.2.1 w) (fun s w => μ s.1 s.2.1 s.2.2.1 s.2.2.2.1 s.2.2.2.2.1 w) h (fun s w h => hr s.1 s.2.1 s.2.2.1 s.2.2.2.1 s.2.2.2.2.1 w h)
def F60 (k : Value → W) (rt_1 : Option Addr) (entry_2 : Value) : W :=
 NN rt_1 fun a3 =>
 LoadT .ptr a3 fun p4 =>
 Loop [.ptr, .any, .any, .ptr, (.int .u64)] (F60_L1 k) rt_1 entry_2 .nilIface p4 0
theorem F60_eq (k : Value → W) (rt_1 : Option Addr) (entry_2 : Value) : compF Go.Proofs.Tryz.prog Go.Proofs.Tryz.f60 [(5, [(0, .ptr), (1, .any), (4, .any), (5, .ptr), (8, (.int .u64))])] (Go.Proofs.Tryz.f60.body.getD .skip) [.pointer rt_1, entry_2] k = F60 k rt_1 entry_2 := by kernel_rfl
theorem F60_calls {rt_1 : Option Addr} {entry_2 : Value} {w : World} {R : Ending → World → Prop} (h : F60 (fun v w => R (.returned v) w) rt_1 entry_2 w) : Calls Go.Proofs.Tryz.prog 60 #[.pointer rt_1, entry_2] w R :=
  calls_of_compF noNum follows [(5, [(0, .ptr), (1, .any), (4, .any), (5, .ptr), (8, (.int .u64))])] (f := 60) (fn := Go.Proofs.Tryz.f60) (body := Go.Proofs.Tryz.f60.body.getD .skip) (args := [.pointer rt_1, entry_2]) rfl rfl (Nat.le_of_ble_eq_true rfl) ((congrFun (F60_eq _ rt_1 entry_2) w).mpr h)
theorem F60_call {rt_1 : Option Addr} {entry_2 : Value} {w : World} {g : Fn W (RTy.leaves (.s (.one .any)))} (h : F60 (fun v => Back (.s (.one .any)) g (.returned v)) rt_1 entry_2 w) : CallT Go.Proofs.Tryz.prog 60 [.pointer rt_1, entry_2] (.s (.one .any)) g w := F60_calls h

/-! ## skiplist.skipListRT).Get -/
def F53_L1 (k : Value → W) (again9 : Option Addr → Option Addr → Nat → Nat → Option Addr → Nat → Nat → Int → Int → W) (rt_4 : Option Addr) (results_5p : Option Addr) (results_5l : Nat) (results_5c : Nat) (s6p : Option Addr) (s6l : Nat) (s6c : Nat) (x7 : Int) (x8 : Int) : W :=
 BIf (decide (x8 < x7)) (
  NN s6p fun a10 =>
  Req (0 ≤ x8 ∧ x8 < ((s6l : Nat) : Int)) <|
  LoadT .any (a10.add x8.toNat) fun v11 =>
  CallT Go.Proofs.Tryz.prog 60 [.pointer rt_4, v11] (.s (.one .any)) fun v12 =>
  RawT Go.Proofs.Tryz.prog (Instr.buildSlice 70 1 [(0, v12)].toArray) (.s (.one .slice)) fun s13p s13l s13c =>
  NextT Go.Proofs.Tryz.prog (builtin .append #[70, 70] 70 [false, false].toArray [.slice results_5p results_5l results_5c, .slice s13p s13l s13c].toArray) (.s (.one .slice)) fun s14p s14l s14c =>
  again9 rt_4 s14p s14l s14c s6p s6l s6c x7 (addI .i64 x8 1)) (
  k (.slice results_5p results_5l results_5c))
theorem F53_L1_rule {k : Value → W} (I : Option Addr → Option Addr → Nat → Nat → Option Addr → Nat → Nat → Int → Int → W) (μ : Option Addr → Option Addr → Nat → Nat → Option Addr → Nat → Nat → Int → Int → World → Nat)
  (hr : ∀ (rt_4 : Option Addr) (results_5p : Option Addr) (results_5l : Nat) (results_5c : Nat) (s6p : Option Addr) (s6l : Nat) (s6c : Nat) (x7 : Int) (x8 : Int) (w : World), I rt_4 results_5p results_5l results_5c s6p s6l s6c x7 x8 w → F53_L1 k (fun rt_4' results_5p' results_5l' results_5c' s6p' s6l' s6c' x7' x8' w' => I rt_4' results_5p' results_5l' results_5c' s6p' s6l' s6c' x7' x8' w' ∧ μ rt_4' results_5p' results_5l' results_5c' s6p' s6l' s6c' x7' x8' w' < μ rt_4 results_5p results_5l results_5c s6p s6l s6c x7 x8 w) rt_4 results_5p results_5l results_5c s6p s6l s6c x7 x8 w)
  {w : World} {rt_4 : Option Addr} {results_5p : Option Addr} {results_5l : Nat} {results_5c : Nat} {s6p : Option Addr} {s6l : Nat} {s6c : Nat} {x7 : Int} {x8 : Int} (h : I rt_4 results_5p results_5l results_5c s6p s6l s6c x7 x8 w) : Loop [.ptr, .slice, .slice, (.int .i64), (.int .i64)] (F53_L1 k) rt_4 results_5p results_5l results_5c s6p s6l s6c x7 x8 w :=
  Loop_intro (ts := [.ptr, .slice, .slice, (.int .i64), (.int .i64)]) (s := (rt_4, (results_5p, results_5l, results_5c), (s6p, s6l, s6c), x7, x8, ())) (fun s w => I s.1 s.2.1.1 s.2.1.2.1 s.2.1.2.2 s.2.2.1.1 s.2.2.1.2.1 s.2.2.1.2.2 s.2.2.2.1 s.2.2.2.2.1 w) (fun s w => μ s.1 s.2.1.1 s.2.1.2.1 s.2.1.2.2 s.2.2.1.1 s.2.2.1.2.1 s.2.2.1.2.2 s.2.2.2.1 s.2.2.2.2.1 w) h (fun s w h => hr s.1 s.2.1.1 s.2.1.2.1 s.2.1.2.2 s.2.2.1.1 s.2.2.1.2.1 s.2.2.1.2.2 s.2.2.2.1 s.2.2.2.2.1 w h)
def F53 (k : Value → W) (rt_1 : Option Addr) (entries_2p : Option Addr) (entries_2l : Nat) (entries_2c : Nat) : W :=
 RawT Go.Proofs.Tryz.prog (Instr.makeSlice 70 (.int .i64 0) (.int .i64 ((entries_2l : Nat) : Int))) (.s (.one .slice)) fun s3p s3l s3c =>
 Loop [.ptr, .slice, .slice, (.int .i64), (.int .i64)] (F53_L1 k) rt_1 s3p s3l s3c entries_2p entries_2l entries_2c ((entries_2l : Nat) : Int) 0
theorem F53_eq (k : Value → W) (rt_1 : Option Addr) (entries_2p : Option Addr) (entries_2l : Nat) (entries_2c : Nat) : compF Go.Proofs.Tryz.prog Go.Proofs.Tryz.f53 [(3, [(0, .ptr), (5, .slice), (11, .slice), (12, (.int .i64)), (13, (.int .i64))])] (Go.Proofs.Tryz.f53.body.getD .skip) [.pointer rt_1, .slice entries_2p entries_2l entries_2c] k = F53 k rt_1 entries_2p entries_2l entries_2c := by kernel_rfl
theorem F53_calls {rt_1 : Option Addr} {entries_2p : Option Addr} {entries_2l : Nat} {entries_2c : Nat} {w : World} {R : Ending → World → Prop} (h : F53 (fun v w => R (.returned v) w) rt_1 entries_2p entries_2l entries_2c w) : Calls Go.Proofs.Tryz.prog 53 #[.pointer rt_1, .slice entries_2p entries_2l entries_2c] w R :=
  calls_of_compF noNum follows [(3, [(0, .ptr), (5, .slice), (11, .slice), (12, (.int .i64)), (13, (.int .i64))])] (f := 53) (fn := Go.Proofs.Tryz.f53) (body := Go.Proofs.Tryz.f53.body.getD .skip) (args := [.pointer rt_1, .slice entries_2p entries_2l entries_2c]) rfl rfl (Nat.le_of_ble_eq_true rfl) ((congrFun (F53_eq _ rt_1 entries_2p entries_2l entries_2c) w).mpr h)
theorem F53_call {rt_1 : Option Addr} {entries_2p : Option Addr} {entries_2l : Nat} {entries_2c : Nat} {w : World} {g : Fn W (RTy.leaves (.s (.one .slice)))} (h : F53 (fun v => Back (.s (.one .slice)) g (.returned v)) rt_1 entries_2p entries_2l entries_2c w) : CallT Go.Proofs.Tryz.prog 53 [.pointer rt_1, .slice entries_2p entries_2l entries_2c] (.s (.one .slice)) g w := F53_calls h

/-! ## skiplist.skipListRT).Len -/
def F55 (k : Value → W) (rt_1 : Option Addr) : W :=
 NN rt_1 fun a2 =>
 LoadT (.int .u64) (a2.add 2) fun x3 =>
 k (.int .u64 x3)
theorem F55_eq (k : Value → W) (rt_1 : Option Addr) : compF Go.Proofs.Tryz.prog Go.Proofs.Tryz.f55 [] (Go.Proofs.Tryz.f55.body.getD .skip) [.pointer rt_1] k = F55 k rt_1 := by kernel_rfl
theorem F55_calls {rt_1 : Option Addr} {w : World} {R : Ending → World → Prop} (h : F55 (fun v w => R (.returned v) w) rt_1 w) : Calls Go.Proofs.Tryz.prog 55 #[.pointer rt_1] w R :=
  calls_of_compF noNum follows [] (f := 55) (fn := Go.Proofs.Tryz.f55) (body := Go.Proofs.Tryz.f55.body.getD .skip) (args := [.pointer rt_1]) rfl rfl (Nat.le_of_ble_eq_true rfl) ((congrFun (F55_eq _ rt_1) w).mpr h)
theorem F55_call {rt_1 : Option Addr} {w : World} {g : Fn W (RTy.leaves (.s (.one (.int .u64))))} (h : F55 (fun v => Back (.s (.one (.int .u64))) g (.returned v)) rt_1 w) : CallT Go.Proofs.Tryz.prog 55 [.pointer rt_1] (.s (.one (.int .u64))) g w := F55_calls h

/-! ## skiplist.skipListRT).init -/
def F19 (k : Value → W) (rt_1 : Option Addr) (dimensions_2 : Int) : W :=
 NN rt_1 fun a3 =>
 Store1 (a3.add 1) (.int .u64 dimensions_2) <|
 NN rt_1 fun a4 =>
 LoadT (.int .u64) (a4.add 3) fun x5 =>
 CallT Go.Proofs.Tryz.prog 29 [.iface 29 (.int .u64 0), .int .u64 x5] (.s (.one .ptr)) fun p6 =>
 NN rt_1 fun a7 =>
 Store1 a7 (.pointer p6) <|
 k (.tuple #[])
theorem F19_eq (k : Value → W) (rt_1 : Option Addr) (dimensions_2 : Int) : compF Go.Proofs.Tryz.prog Go.Proofs.Tryz.f19 [] (Go.Proofs.Tryz.f19.body.getD .skip) [.pointer rt_1, .int .u64 dimensions_2] k = F19 k rt_1 dimensions_2 := by kernel_rfl
theorem F19_calls {rt_1 : Option Addr} {dimensions_2 : Int} {w : World} {R : Ending → World → Prop} (h : F19 (fun v w => R (.returned v) w) rt_1 dimensions_2 w) : Calls Go.Proofs.Tryz.prog 19 #[.pointer rt_1, .int .u64 dimensions_2] w R :=
  calls_of_compF noNum follows [] (f := 19) (fn := Go.Proofs.Tryz.f19) (body := Go.Proofs.Tryz.f19.body.getD .skip) (args := [.pointer rt_1, .int .u64 dimensions_2]) rfl rfl (Nat.le_of_ble_eq_true rfl) ((congrFun (F19_eq _ rt_1 dimensions_2) w).mpr h)
theorem F19_call {rt_1 : Option Addr} {dimensions_2 : Int} {w : World} {g : Fn W (RTy.leaves (.tup []))} (h : F19 (fun v => Back (.tup []) g (.returned v)) rt_1 dimensions_2 w) : CallT Go.Proofs.Tryz.prog 19 [.pointer rt_1, .int .u64 dimensions_2] (.tup []) g w := F19_calls h

/-! ## skiplist.NewSeeded -/
def F15 (k : Value → W) (dimensions_1 : Int) (seed_2 : Int) : W :=
 New [.pointer none, .int .u64 0, .int .u64 0, .int .u64 seed_2] 60 fun n3 =>
 CallT Go.Proofs.Tryz.prog 19 [.pointer (some ⟨n3, 0, none⟩), .int .u64 dimensions_1] (.tup []) <|
 k (.iface 57 (.pointer (some ⟨n3, 0, none⟩)))
theorem F15_eq (k : Value → W) (dimensions_1 : Int) (seed_2 : Int) : compF Go.Proofs.Tryz.prog Go.Proofs.Tryz.f15 [] (Go.Proofs.Tryz.f15.body.getD .skip) [.int .u64 dimensions_1, .int .u64 seed_2] k = F15 k dimensions_1 seed_2 := by kernel_rfl
theorem F15_calls {dimensions_1 : Int} {seed_2 : Int} {w : World} {R : Ending → World → Prop} (h : F15 (fun v w => R (.returned v) w) dimensions_1 seed_2 w) : Calls Go.Proofs.Tryz.prog 15 #[.int .u64 dimensions_1, .int .u64 seed_2] w R :=
  calls_of_compF noNum follows [] (f := 15) (fn := Go.Proofs.Tryz.f15) (body := Go.Proofs.Tryz.f15.body.getD .skip) (args := [.int .u64 dimensions_1, .int .u64 seed_2]) rfl rfl (Nat.le_of_ble_eq_true rfl) ((congrFun (F15_eq _ dimensions_1 seed_2) w).mpr h)
theorem F15_call {dimensions_1 : Int} {seed_2 : Int} {w : World} {g : Fn W (RTy.leaves (.s (.one .any)))} (h : F15 (fun v => Back (.s (.one .any)) g (.returned v)) dimensions_1 seed_2 w) : CallT Go.Proofs.Tryz.prog 15 [.int .u64 dimensions_1, .int .u64 seed_2] (.s (.one .any)) g w := F15_calls h

end Go.Proofs.YtfokodpnoiilbaaGreat.E
