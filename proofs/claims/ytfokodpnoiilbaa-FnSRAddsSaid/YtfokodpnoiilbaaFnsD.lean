/-
  Printed by this session's own program eng.py out of Lean's print of the loaded functions: what each function's body asks, in the engine's words; each is checked against the program by the kernel.
-/
import Derived.Test.YtfokodpnoiilbaaEng
import Derived.Test.YtfokodpnoiilbaaFnsA
namespace Go.Proofs.Ytfokodpnoiilbaa.E
open Go
set_option linter.unusedVariables false
set_option maxRecDepth 100000
/-! ## skiplist.skipEntry).Compare -/
def F173 (k : Value → W) (se_1 : Int) (other_2 : Value) : W :=
 TAs other_2 254 (.s (.one (.int .u64))) fun x3 =>
 BIf (se_1 == x3) (
  k (.int .i64 0)) (
  BIf (decide (se_1 > x3)) (
   k (.int .i64 1)) (
   k (.int .i64 (-1))))
theorem F173_eq (k : Value → W) (se_1 : Int) (other_2 : Value) : compF Go.Proofs.Try.prog Go.Proofs.Try.f173 [] (Go.Proofs.Try.f173.body.getD .skip) [.int .u64 se_1, other_2] k = F173 k se_1 other_2 := by kernel_rfl
theorem F173_calls {se_1 : Int} {other_2 : Value} {w : World} {R : Ending → World → Prop} (h : F173 (fun v w => R (.returned v) w) se_1 other_2 w) : Calls Go.Proofs.Try.prog 173 #[.int .u64 se_1, other_2] w R :=
  calls_of_compF noNum follows [] (f := 173) (fn := Go.Proofs.Try.f173) (body := Go.Proofs.Try.f173.body.getD .skip) (args := [.int .u64 se_1, other_2]) rfl rfl (Nat.le_of_ble_eq_true rfl) ((congrFun (F173_eq _ se_1 other_2) w).mpr h)
theorem F173_call {se_1 : Int} {other_2 : Value} {w : World} {g : Fn W (RTy.leaves (.s (.one (.int .i64))))} (h : F173 (fun v => Back (.s (.one (.int .i64))) g (.returned v)) se_1 other_2 w) : CallT Go.Proofs.Try.prog 173 [.int .u64 se_1, other_2] (.s (.one (.int .i64))) g w := F173_calls h

/-! ## skiplist.skipEntry).key -/
def F174 (k : Value → W) (se_1 : Int) : W :=
 k (.int .u64 se_1)
theorem F174_eq (k : Value → W) (se_1 : Int) : compF Go.Proofs.Try.prog Go.Proofs.Try.f174 [] (Go.Proofs.Try.f174.body.getD .skip) [.int .u64 se_1] k = F174 k se_1 := by kernel_rfl
theorem F174_calls {se_1 : Int} {w : World} {R : Ending → World → Prop} (h : F174 (fun v w => R (.returned v) w) se_1 w) : Calls Go.Proofs.Try.prog 174 #[.int .u64 se_1] w R :=
  calls_of_compF noNum follows [] (f := 174) (fn := Go.Proofs.Try.f174) (body := Go.Proofs.Try.f174.body.getD .skip) (args := [.int .u64 se_1]) rfl rfl (Nat.le_of_ble_eq_true rfl) ((congrFun (F174_eq _ se_1) w).mpr h)
theorem F174_call {se_1 : Int} {w : World} {g : Fn W (RTy.leaves (.s (.one (.int .u64))))} (h : F174 (fun v => Back (.s (.one (.int .u64))) g (.returned v)) se_1 w) : CallT Go.Proofs.Try.prog 174 [.int .u64 se_1] (.s (.one (.int .u64))) g w := F174_calls h

/-! ## skiplist.dimensionalBundle).Compare -/
def F169 (k : Value → W) (db_1 : Option Addr) (e_2 : Value) : W :=
 RawS Go.Proofs.Try.prog (Instr.typeAssert e_2 114 260 false) (.s (.one .any)) fun v3 =>
 Drw <|
 NN db_1 fun a4 =>
 LoadT (.int .u64) a4 fun x5 =>
 NextT Go.Proofs.Try.prog (callMethod v3 "given.example/pub-spokeshave/pub/godatastructures/rangetree/skiplist.key" [].toArray) (.s (.one (.int .u64))) fun x6 =>
 Chk1 a4 (.int .u64 x5) <|
 BIf (x5 == x6) (
  k (.int .i64 0)) (
  Drw <|
  NN db_1 fun a7 =>
  LoadT (.int .u64) a7 fun x8 =>
  NextT Go.Proofs.Try.prog (callMethod v3 "given.example/pub-spokeshave/pub/godatastructures/rangetree/skiplist.key" [].toArray) (.s (.one (.int .u64))) fun x9 =>
  Chk1 a7 (.int .u64 x8) <|
  BIf (decide (x8 > x9)) (
   k (.int .i64 1)) (
   k (.int .i64 (-1))))
theorem F169_eq (k : Value → W) (db_1 : Option Addr) (e_2 : Value) : compF Go.Proofs.Try.prog Go.Proofs.Try.f169 [] (Go.Proofs.Try.f169.body.getD .skip) [.pointer db_1, e_2] k = F169 k db_1 e_2 := by kernel_rfl
theorem F169_calls {db_1 : Option Addr} {e_2 : Value} {w : World} {R : Ending → World → Prop} (h : F169 (fun v w => R (.returned v) w) db_1 e_2 w) : Calls Go.Proofs.Try.prog 169 #[.pointer db_1, e_2] w R :=
  calls_of_compF noNum follows [] (f := 169) (fn := Go.Proofs.Try.f169) (body := Go.Proofs.Try.f169.body.getD .skip) (args := [.pointer db_1, e_2]) rfl rfl (Nat.le_of_ble_eq_true rfl) ((congrFun (F169_eq _ db_1 e_2) w).mpr h)
theorem F169_call {db_1 : Option Addr} {e_2 : Value} {w : World} {g : Fn W (RTy.leaves (.s (.one (.int .i64))))} (h : F169 (fun v => Back (.s (.one (.int .i64))) g (.returned v)) db_1 e_2 w) : CallT Go.Proofs.Try.prog 169 [.pointer db_1, e_2] (.s (.one (.int .i64))) g w := F169_calls h

/-! ## skiplist.dimensionalBundle).key -/
def F170 (k : Value → W) (db_1 : Option Addr) : W :=
 NN db_1 fun a2 =>
 LoadT (.int .u64) a2 fun x3 =>
 k (.int .u64 x3)
theorem F170_eq (k : Value → W) (db_1 : Option Addr) : compF Go.Proofs.Try.prog Go.Proofs.Try.f170 [] (Go.Proofs.Try.f170.body.getD .skip) [.pointer db_1] k = F170 k db_1 := by kernel_rfl
theorem F170_calls {db_1 : Option Addr} {w : World} {R : Ending → World → Prop} (h : F170 (fun v w => R (.returned v) w) db_1 w) : Calls Go.Proofs.Try.prog 170 #[.pointer db_1] w R :=
  calls_of_compF noNum follows [] (f := 170) (fn := Go.Proofs.Try.f170) (body := Go.Proofs.Try.f170.body.getD .skip) (args := [.pointer db_1]) rfl rfl (Nat.le_of_ble_eq_true rfl) ((congrFun (F170_eq _ db_1) w).mpr h)
theorem F170_call {db_1 : Option Addr} {w : World} {g : Fn W (RTy.leaves (.s (.one (.int .u64))))} (h : F170 (fun v => Back (.s (.one (.int .u64))) g (.returned v)) db_1 w) : CallT Go.Proofs.Try.prog 170 [.pointer db_1] (.s (.one (.int .u64))) g w := F170_calls h

/-! ## skiplist.lastBundle).Compare -/
def F171 (k : Value → W) (lb_1 : Option Addr) (e_2 : Value) : W :=
 RawS Go.Proofs.Try.prog (Instr.typeAssert e_2 114 260 false) (.s (.one .any)) fun v3 =>
 Drw <|
 NN lb_1 fun a4 =>
 LoadT (.int .u64) a4 fun x5 =>
 NextT Go.Proofs.Try.prog (callMethod v3 "given.example/pub-spokeshave/pub/godatastructures/rangetree/skiplist.key" [].toArray) (.s (.one (.int .u64))) fun x6 =>
 Chk1 a4 (.int .u64 x5) <|
 BIf (x5 == x6) (
  k (.int .i64 0)) (
  Drw <|
  NN lb_1 fun a7 =>
  LoadT (.int .u64) a7 fun x8 =>
  NextT Go.Proofs.Try.prog (callMethod v3 "given.example/pub-spokeshave/pub/godatastructures/rangetree/skiplist.key" [].toArray) (.s (.one (.int .u64))) fun x9 =>
  Chk1 a7 (.int .u64 x8) <|
  BIf (decide (x8 > x9)) (
   k (.int .i64 1)) (
   k (.int .i64 (-1))))
theorem F171_eq (k : Value → W) (lb_1 : Option Addr) (e_2 : Value) : compF Go.Proofs.Try.prog Go.Proofs.Try.f171 [] (Go.Proofs.Try.f171.body.getD .skip) [.pointer lb_1, e_2] k = F171 k lb_1 e_2 := by kernel_rfl
theorem F171_calls {lb_1 : Option Addr} {e_2 : Value} {w : World} {R : Ending → World → Prop} (h : F171 (fun v w => R (.returned v) w) lb_1 e_2 w) : Calls Go.Proofs.Try.prog 171 #[.pointer lb_1, e_2] w R :=
  calls_of_compF noNum follows [] (f := 171) (fn := Go.Proofs.Try.f171) (body := Go.Proofs.Try.f171.body.getD .skip) (args := [.pointer lb_1, e_2]) rfl rfl (Nat.le_of_ble_eq_true rfl) ((congrFun (F171_eq _ lb_1 e_2) w).mpr h)
theorem F171_call {lb_1 : Option Addr} {e_2 : Value} {w : World} {g : Fn W (RTy.leaves (.s (.one (.int .i64))))} (h : F171 (fun v => Back (.s (.one (.int .i64))) g (.returned v)) lb_1 e_2 w) : CallT Go.Proofs.Try.prog 171 [.pointer lb_1, e_2] (.s (.one (.int .i64))) g w := F171_calls h

/-! ## skiplist.lastBundle).key -/
def F172 (k : Value → W) (lb_1 : Option Addr) : W :=
 NN lb_1 fun a2 =>
 LoadT (.int .u64) a2 fun x3 =>
 k (.int .u64 x3)
theorem F172_eq (k : Value → W) (lb_1 : Option Addr) : compF Go.Proofs.Try.prog Go.Proofs.Try.f172 [] (Go.Proofs.Try.f172.body.getD .skip) [.pointer lb_1] k = F172 k lb_1 := by kernel_rfl
theorem F172_calls {lb_1 : Option Addr} {w : World} {R : Ending → World → Prop} (h : F172 (fun v w => R (.returned v) w) lb_1 w) : Calls Go.Proofs.Try.prog 172 #[.pointer lb_1] w R :=
  calls_of_compF noNum follows [] (f := 172) (fn := Go.Proofs.Try.f172) (body := Go.Proofs.Try.f172.body.getD .skip) (args := [.pointer lb_1]) rfl rfl (Nat.le_of_ble_eq_true rfl) ((congrFun (F172_eq _ lb_1) w).mpr h)
theorem F172_call {lb_1 : Option Addr} {w : World} {g : Fn W (RTy.leaves (.s (.one (.int .u64))))} (h : F172 (fun v => Back (.s (.one (.int .u64))) g (.returned v)) lb_1 w) : CallT Go.Proofs.Try.prog 172 [.pointer lb_1] (.s (.one (.int .u64))) g w := F172_calls h

/-! ## skiplist.isLastDimension -/
def F155 (k : Value → W) (dimension_1 : Int) (lastDimension_2 : Int) : W :=
 BIf (decide (dimension_1 ≥ lastDimension_2)) (
  bot) (
  Bind (dimension_1 == (subI .u64 lastDimension_2 1)) fun y3 =>
  k (.bool y3))
theorem F155_eq (k : Value → W) (dimension_1 : Int) (lastDimension_2 : Int) : compF Go.Proofs.Try.prog Go.Proofs.Try.f155 [] (Go.Proofs.Try.f155.body.getD .skip) [.int .u64 dimension_1, .int .u64 lastDimension_2] k = F155 k dimension_1 lastDimension_2 := by kernel_rfl
theorem F155_calls {dimension_1 : Int} {lastDimension_2 : Int} {w : World} {R : Ending → World → Prop} (h : F155 (fun v w => R (.returned v) w) dimension_1 lastDimension_2 w) : Calls Go.Proofs.Try.prog 155 #[.int .u64 dimension_1, .int .u64 lastDimension_2] w R :=
  calls_of_compF noNum follows [] (f := 155) (fn := Go.Proofs.Try.f155) (body := Go.Proofs.Try.f155.body.getD .skip) (args := [.int .u64 dimension_1, .int .u64 lastDimension_2]) rfl rfl (Nat.le_of_ble_eq_true rfl) ((congrFun (F155_eq _ dimension_1 lastDimension_2) w).mpr h)
theorem F155_call {dimension_1 : Int} {lastDimension_2 : Int} {w : World} {g : Fn W (RTy.leaves (.s (.one .bool)))} (h : F155 (fun v => Back (.s (.one .bool)) g (.returned v)) dimension_1 lastDimension_2 w) : CallT Go.Proofs.Try.prog 155 [.int .u64 dimension_1, .int .u64 lastDimension_2] (.s (.one .bool)) g w := F155_calls h

/-! ## impl.place -/
def F162 (k : Value → W) (l_1p : Option Addr) (l_1l : Nat) (l_1c : Nat) (d_2 : Int) : W :=
 BIf (decide (d_2 < 1)) (
  k (.int .i64 0)) (
  BIf (decide (d_2 > (IntKind.wrap .u64 ((l_1l : Nat) : Int)))) (
   k (.int .i64 0)) (
   NN l_1p fun a3 =>
   Req (0 ≤ subI .u64 d_2 1 ∧ subI .u64 d_2 1 < ((l_1l : Nat) : Int)) <|
   LoadT (.int .i64) (a3.add ((subI .u64 d_2 1).toNat)) fun x4 =>
   k (.int .i64 x4)))
theorem F162_eq (k : Value → W) (l_1p : Option Addr) (l_1l : Nat) (l_1c : Nat) (d_2 : Int) : compF Go.Proofs.Try.prog Go.Proofs.Try.f162 [] (Go.Proofs.Try.f162.body.getD .skip) [.slice l_1p l_1l l_1c, .int .u64 d_2] k = F162 k l_1p l_1l l_1c d_2 := by kernel_rfl
theorem F162_calls {l_1p : Option Addr} {l_1l : Nat} {l_1c : Nat} {d_2 : Int} {w : World} {R : Ending → World → Prop} (h : F162 (fun v w => R (.returned v) w) l_1p l_1l l_1c d_2 w) : Calls Go.Proofs.Try.prog 162 #[.slice l_1p l_1l l_1c, .int .u64 d_2] w R :=
  calls_of_compF noNum follows [] (f := 162) (fn := Go.Proofs.Try.f162) (body := Go.Proofs.Try.f162.body.getD .skip) (args := [.slice l_1p l_1l l_1c, .int .u64 d_2]) rfl rfl (Nat.le_of_ble_eq_true rfl) ((congrFun (F162_eq _ l_1p l_1l l_1c d_2) w).mpr h)
theorem F162_call {l_1p : Option Addr} {l_1l : Nat} {l_1c : Nat} {d_2 : Int} {w : World} {g : Fn W (RTy.leaves (.s (.one (.int .i64))))} (h : F162 (fun v => Back (.s (.one (.int .i64))) g (.returned v)) l_1p l_1l l_1c d_2 w) : CallT Go.Proofs.Try.prog 162 [.slice l_1p l_1l l_1c, .int .u64 d_2] (.s (.one (.int .i64))) g w := F162_calls h

/-! ## impl.spot).ValueAtDimension -/
def F166 (k : Value → W) (s1p : Option Addr) (s1l : Nat) (s1c : Nat) (x2 : Int) (d_3 : Int) : W :=
 New [.slice s1p s1l s1c, .int .i64 x2] 200 fun n4 =>
 LoadT .slice ⟨n4, 0, none⟩ fun s5p s5l s5c =>
 CallT Go.Proofs.Try.prog 162 [.slice s5p s5l s5c, .int .u64 (addI .u64 d_3 1)] (.s (.one (.int .i64))) fun x6 =>
 k (.int .i64 x6)
theorem F166_eq (k : Value → W) (s1p : Option Addr) (s1l : Nat) (s1c : Nat) (x2 : Int) (d_3 : Int) : compF Go.Proofs.Try.prog Go.Proofs.Try.f166 [] (Go.Proofs.Try.f166.body.getD .skip) [.agg #[.slice s1p s1l s1c, .int .i64 x2], .int .u64 d_3] k = F166 k s1p s1l s1c x2 d_3 := by kernel_rfl
theorem F166_calls {s1p : Option Addr} {s1l : Nat} {s1c : Nat} {x2 : Int} {d_3 : Int} {w : World} {R : Ending → World → Prop} (h : F166 (fun v w => R (.returned v) w) s1p s1l s1c x2 d_3 w) : Calls Go.Proofs.Try.prog 166 #[.agg #[.slice s1p s1l s1c, .int .i64 x2], .int .u64 d_3] w R :=
  calls_of_compF noNum follows [] (f := 166) (fn := Go.Proofs.Try.f166) (body := Go.Proofs.Try.f166.body.getD .skip) (args := [.agg #[.slice s1p s1l s1c, .int .i64 x2], .int .u64 d_3]) rfl rfl (Nat.le_of_ble_eq_true rfl) ((congrFun (F166_eq _ s1p s1l s1c x2 d_3) w).mpr h)
theorem F166_call {s1p : Option Addr} {s1l : Nat} {s1c : Nat} {x2 : Int} {d_3 : Int} {w : World} {g : Fn W (RTy.leaves (.s (.one (.int .i64))))} (h : F166 (fun v => Back (.s (.one (.int .i64))) g (.returned v)) s1p s1l s1c x2 d_3 w) : CallT Go.Proofs.Try.prog 166 [.agg #[.slice s1p s1l s1c, .int .i64 x2], .int .u64 d_3] (.s (.one (.int .i64))) g w := F166_calls h

/-! ## skiplist.skipListRT).add -/
def F149_J1 (k : Value → W) (again10 : Option Addr → Value → Value → Option Addr → Int → W) (rt_38 : Option Addr) (entry_39 : Value) (v40 : Value) (db_41 : Option Addr) (i_42 : Int) : W :=
 NN db_41 fun a43 =>
 LoadT .ptr (a43.add 1) fun p44 =>
 again10 rt_38 entry_39 v40 p44 (addI .u64 i_42 1)
def F149_L1 (k : Value → W) (again10 : Option Addr → Value → Value → Option Addr → Int → W) (rt_5 : Option Addr) (entry_6 : Value) (v7 : Value) (sl_8 : Option Addr) (i_9 : Int) : W :=
 NN rt_5 fun a11 =>
 LoadT (.int .u64) (a11.add 1) fun x12 =>
 BIf (decide (i_9 < x12)) (
  NextT Go.Proofs.Try.prog (callMethod entry_6 "ValueAtDimension" [.int .u64 i_9].toArray) (.s (.one (.int .i64))) fun x13 =>
  RawT Go.Proofs.Try.prog (Instr.buildSlice 109 1 [(0, .iface 254 (.int .u64 (IntKind.wrap .u64 x13)))].toArray) (.s (.one .slice)) fun s14p s14l s14c =>
  CallT Go.Proofs.Try.prog 43 [.pointer sl_8, .slice s14p s14l s14c] (.s (.one .slice)) fun s15p s15l s15c =>
  NN s15p fun a16 =>
  Req (0 ≤ (0 : Int) ∧ (0 : Int) < ((s15l : Nat) : Int)) <|
  LoadT .any (a16.add ((0 : Int).toNat)) fun v17 =>
  NN rt_5 fun a18 =>
  LoadT (.int .u64) (a18.add 1) fun x19 =>
  CallT Go.Proofs.Try.prog 155 [.int .u64 i_9, .int .u64 x19] (.s (.one .bool)) fun b20 =>
  BIf b20 (
   IfaceNil v17 fun b21 =>
   BIf (!b21) (
    TAs v17 253 (.s (.one .ptr)) fun p22 =>
    NN p22 fun a23 =>
    LoadT .any (a23.add 1) fun v24 =>
    NN p22 fun a25 =>
    Req (oneC entry_6 = true) <|
    Store1 (a25.add 1) entry_6 <|
    k v24) (
    Req (oneC entry_6 = true) <|
    New [.int .u64 (IntKind.wrap .u64 x13), entry_6] 256 fun n26 =>
    NN rt_5 fun a27 =>
    LoadT (.int .u64) (a27.add 2) fun x28 =>
    Store1 (a27.add 2) (.int .u64 (addI .u64 x28 1)) <|
    RawT Go.Proofs.Try.prog (Instr.buildSlice 109 1 [(0, .iface 253 (.pointer (some ⟨n26, 0, none⟩)))].toArray) (.s (.one .slice)) fun s29p s29l s29c =>
    CallT Go.Proofs.Try.prog 41 [.pointer sl_8, .slice s29p s29l s29c] (.s (.one .slice)) fun s30p s30l s30c =>
    k .nilIface)) (
   IfaceNil v17 fun b31 =>
   BIf b31 (
    NN rt_5 fun a32 =>
    LoadT (.int .u64) (a32.add 3) fun x33 =>
    CallT Go.Proofs.Try.prog 21 [.iface 33 (.int .u64 0), .int .u64 x33] (.s (.one .ptr)) fun p34 =>
    New [.int .u64 (IntKind.wrap .u64 x13), .pointer p34] 258 fun n35 =>
    RawT Go.Proofs.Try.prog (Instr.buildSlice 109 1 [(0, .iface 252 (.pointer (some ⟨n35, 0, none⟩)))].toArray) (.s (.one .slice)) fun s36p s36l s36c =>
    CallT Go.Proofs.Try.prog 41 [.pointer sl_8, .slice s36p s36l s36c] (.s (.one .slice)) fun s37p s37l s37c =>
    F149_J1 k again10 rt_5 entry_6 v7 (some ⟨n35, 0, none⟩) i_9) (
    TAs v17 252 (.s (.one .ptr)) fun p45 =>
    F149_J1 k again10 rt_5 entry_6 v7 p45 i_9))) (
  bot)
theorem F149_L1_rule {k : Value → W} (I : Option Addr → Value → Value → Option Addr → Int → W) (μ : Option Addr → Value → Value → Option Addr → Int → World → Nat)
  (hr : ∀ (rt_5 : Option Addr) (entry_6 : Value) (v7 : Value) (sl_8 : Option Addr) (i_9 : Int) (w : World), I rt_5 entry_6 v7 sl_8 i_9 w → F149_L1 k (fun rt_5' entry_6' v7' sl_8' i_9' w' => I rt_5' entry_6' v7' sl_8' i_9' w' ∧ μ rt_5' entry_6' v7' sl_8' i_9' w' < μ rt_5 entry_6 v7 sl_8 i_9 w) rt_5 entry_6 v7 sl_8 i_9 w)
  {w : World} {rt_5 : Option Addr} {entry_6 : Value} {v7 : Value} {sl_8 : Option Addr} {i_9 : Int} (h : I rt_5 entry_6 v7 sl_8 i_9 w) : Loop [.ptr, .any, .any, .ptr, (.int .u64)] (F149_L1 k) rt_5 entry_6 v7 sl_8 i_9 w :=
  Loop_intro (ts := [.ptr, .any, .any, .ptr, (.int .u64)]) (s := (rt_5, entry_6, v7, sl_8, i_9, ())) (fun s w => I s.1 s.2.1 s.2.2.1 s.2.2.2.1 s.2.2.2.2.1 w) (fun s w => μ s.1 s.2.1 s.2.2.1 s.2.2.2.1 s.2.2.2.2.1 w) h (fun s w h => hr s.1 s.2.1 s.2.2.1 s.2.2.2.1 s.2.2.2.2.1 w h)
def F149 (k : Value → W) (rt_1 : Option Addr) (entry_2 : Value) : W :=
 NN rt_1 fun a3 =>
 LoadT .ptr a3 fun p4 =>
 Loop [.ptr, .any, .any, .ptr, (.int .u64)] (F149_L1 k) rt_1 entry_2 .nilIface p4 0
theorem F149_eq (k : Value → W) (rt_1 : Option Addr) (entry_2 : Value) : compF Go.Proofs.Try.prog Go.Proofs.Try.f149 [(7, [(0, .ptr), (1, .any), (4, .any), (7, .ptr), (10, (.int .u64))])] (Go.Proofs.Try.f149.body.getD .skip) [.pointer rt_1, entry_2] k = F149 k rt_1 entry_2 := by kernel_rfl
theorem F149_calls {rt_1 : Option Addr} {entry_2 : Value} {w : World} {R : Ending → World → Prop} (h : F149 (fun v w => R (.returned v) w) rt_1 entry_2 w) : Calls Go.Proofs.Try.prog 149 #[.pointer rt_1, entry_2] w R :=
  calls_of_compF noNum follows [(7, [(0, .ptr), (1, .any), (4, .any), (7, .ptr), (10, (.int .u64))])] (f := 149) (fn := Go.Proofs.Try.f149) (body := Go.Proofs.Try.f149.body.getD .skip) (args := [.pointer rt_1, entry_2]) rfl rfl (Nat.le_of_ble_eq_true rfl) ((congrFun (F149_eq _ rt_1 entry_2) w).mpr h)
theorem F149_call {rt_1 : Option Addr} {entry_2 : Value} {w : World} {g : Fn W (RTy.leaves (.s (.one .any)))} (h : F149 (fun v => Back (.s (.one .any)) g (.returned v)) rt_1 entry_2 w) : CallT Go.Proofs.Try.prog 149 [.pointer rt_1, entry_2] (.s (.one .any)) g w := F149_calls h

/-! ## skiplist.skipListRT).Add -/
def F142_L1 (k : Value → W) (again9 : Option Addr → Option Addr → Nat → Nat → Option Addr → Nat → Nat → Int → Int → W) (rt_4 : Option Addr) (overwritten_5p : Option Addr) (overwritten_5l : Nat) (overwritten_5c : Nat) (s6p : Option Addr) (s6l : Nat) (s6c : Nat) (x7 : Int) (x8 : Int) : W :=
 BIf (decide (x8 < x7)) (
  NN s6p fun a10 =>
  Req (0 ≤ x8 ∧ x8 < ((s6l : Nat) : Int)) <|
  LoadT .any (a10.add x8.toNat) fun v11 =>
  CallT Go.Proofs.Try.prog 149 [.pointer rt_4, v11] (.s (.one .any)) fun v12 =>
  NN overwritten_5p fun a13 =>
  Req (0 ≤ x8 ∧ x8 < ((overwritten_5l : Nat) : Int)) <|
  Req (oneC v12 = true) <|
  Store1 (a13.add x8.toNat) v12 <|
  again9 rt_4 overwritten_5p overwritten_5l overwritten_5c s6p s6l s6c x7 (addI .i64 x8 1)) (
  k (.slice overwritten_5p overwritten_5l overwritten_5c))
theorem F142_L1_rule {k : Value → W} (I : Option Addr → Option Addr → Nat → Nat → Option Addr → Nat → Nat → Int → Int → W) (μ : Option Addr → Option Addr → Nat → Nat → Option Addr → Nat → Nat → Int → Int → World → Nat)
  (hr : ∀ (rt_4 : Option Addr) (overwritten_5p : Option Addr) (overwritten_5l : Nat) (overwritten_5c : Nat) (s6p : Option Addr) (s6l : Nat) (s6c : Nat) (x7 : Int) (x8 : Int) (w : World), I rt_4 overwritten_5p overwritten_5l overwritten_5c s6p s6l s6c x7 x8 w → F142_L1 k (fun rt_4' overwritten_5p' overwritten_5l' overwritten_5c' s6p' s6l' s6c' x7' x8' w' => I rt_4' overwritten_5p' overwritten_5l' overwritten_5c' s6p' s6l' s6c' x7' x8' w' ∧ μ rt_4' overwritten_5p' overwritten_5l' overwritten_5c' s6p' s6l' s6c' x7' x8' w' < μ rt_4 overwritten_5p overwritten_5l overwritten_5c s6p s6l s6c x7 x8 w) rt_4 overwritten_5p overwritten_5l overwritten_5c s6p s6l s6c x7 x8 w)
  {w : World} {rt_4 : Option Addr} {overwritten_5p : Option Addr} {overwritten_5l : Nat} {overwritten_5c : Nat} {s6p : Option Addr} {s6l : Nat} {s6c : Nat} {x7 : Int} {x8 : Int} (h : I rt_4 overwritten_5p overwritten_5l overwritten_5c s6p s6l s6c x7 x8 w) : Loop [.ptr, .slice, .slice, (.int .i64), (.int .i64)] (F142_L1 k) rt_4 overwritten_5p overwritten_5l overwritten_5c s6p s6l s6c x7 x8 w :=
  Loop_intro (ts := [.ptr, .slice, .slice, (.int .i64), (.int .i64)]) (s := (rt_4, (overwritten_5p, overwritten_5l, overwritten_5c), (s6p, s6l, s6c), x7, x8, ())) (fun s w => I s.1 s.2.1.1 s.2.1.2.1 s.2.1.2.2 s.2.2.1.1 s.2.2.1.2.1 s.2.2.1.2.2 s.2.2.2.1 s.2.2.2.2.1 w) (fun s w => μ s.1 s.2.1.1 s.2.1.2.1 s.2.1.2.2 s.2.2.1.1 s.2.2.1.2.1 s.2.2.1.2.2 s.2.2.2.1 s.2.2.2.2.1 w) h (fun s w h => hr s.1 s.2.1.1 s.2.1.2.1 s.2.1.2.2 s.2.2.1.1 s.2.2.1.2.1 s.2.2.1.2.2 s.2.2.2.1 s.2.2.2.2.1 w h)
def F142 (k : Value → W) (rt_1 : Option Addr) (entries_2p : Option Addr) (entries_2l : Nat) (entries_2c : Nat) : W :=
 RawT Go.Proofs.Try.prog (Instr.makeSlice 144 (.int .i64 ((entries_2l : Nat) : Int)) (.int .i64 ((entries_2l : Nat) : Int))) (.s (.one .slice)) fun s3p s3l s3c =>
 Loop [.ptr, .slice, .slice, (.int .i64), (.int .i64)] (F142_L1 k) rt_1 s3p s3l s3c entries_2p entries_2l entries_2c ((entries_2l : Nat) : Int) 0
theorem F142_eq (k : Value → W) (rt_1 : Option Addr) (entries_2p : Option Addr) (entries_2l : Nat) (entries_2c : Nat) : compF Go.Proofs.Try.prog Go.Proofs.Try.f142 [(3, [(0, .ptr), (5, .slice), (11, .slice), (12, (.int .i64)), (13, (.int .i64))])] (Go.Proofs.Try.f142.body.getD .skip) [.pointer rt_1, .slice entries_2p entries_2l entries_2c] k = F142 k rt_1 entries_2p entries_2l entries_2c := by kernel_rfl
theorem F142_calls {rt_1 : Option Addr} {entries_2p : Option Addr} {entries_2l : Nat} {entries_2c : Nat} {w : World} {R : Ending → World → Prop} (h : F142 (fun v w => R (.returned v) w) rt_1 entries_2p entries_2l entries_2c w) : Calls Go.Proofs.Try.prog 142 #[.pointer rt_1, .slice entries_2p entries_2l entries_2c] w R :=
  calls_of_compF noNum follows [(3, [(0, .ptr), (5, .slice), (11, .slice), (12, (.int .i64)), (13, (.int .i64))])] (f := 142) (fn := Go.Proofs.Try.f142) (body := Go.Proofs.Try.f142.body.getD .skip) (args := [.pointer rt_1, .slice entries_2p entries_2l entries_2c]) rfl rfl (Nat.le_of_ble_eq_true rfl) ((congrFun (F142_eq _ rt_1 entries_2p entries_2l entries_2c) w).mpr h)
theorem F142_call {rt_1 : Option Addr} {entries_2p : Option Addr} {entries_2l : Nat} {entries_2c : Nat} {w : World} {g : Fn W (RTy.leaves (.s (.one .slice)))} (h : F142 (fun v => Back (.s (.one .slice)) g (.returned v)) rt_1 entries_2p entries_2l entries_2c w) : CallT Go.Proofs.Try.prog 142 [.pointer rt_1, .slice entries_2p entries_2l entries_2c] (.s (.one .slice)) g w := F142_calls h

/-! ## skiplist.skipListRT).get -/
def F152_L1 (k : Value → W) (again10 : Option Addr → Value → Value → Option Addr → Int → W) (rt_5 : Option Addr) (entry_6 : Value) (v7 : Value) (sl_8 : Option Addr) (i_9 : Int) : W :=
 NN rt_5 fun a11 =>
 LoadT (.int .u64) (a11.add 1) fun x12 =>
 BIf (decide (i_9 < x12)) (
  NextT Go.Proofs.Try.prog (callMethod entry_6 "ValueAtDimension" [.int .u64 i_9].toArray) (.s (.one (.int .i64))) fun x13 =>
  RawT Go.Proofs.Try.prog (Instr.buildSlice 109 1 [(0, .iface 254 (.int .u64 (IntKind.wrap .u64 x13)))].toArray) (.s (.one .slice)) fun s14p s14l s14c =>
  CallT Go.Proofs.Try.prog 43 [.pointer sl_8, .slice s14p s14l s14c] (.s (.one .slice)) fun s15p s15l s15c =>
  NN s15p fun a16 =>
  Req (0 ≤ (0 : Int) ∧ (0 : Int) < ((s15l : Nat) : Int)) <|
  LoadT .any (a16.add ((0 : Int).toNat)) fun v17 =>
  IfaceNil v17 fun b18 =>
  BIf b18 (
   k .nilIface) (
   NN rt_5 fun a19 =>
   LoadT (.int .u64) (a19.add 1) fun x20 =>
   CallT Go.Proofs.Try.prog 155 [.int .u64 i_9, .int .u64 x20] (.s (.one .bool)) fun b21 =>
   BIf b21 (
    TAs v17 253 (.s (.one .ptr)) fun p22 =>
    NN p22 fun a23 =>
    LoadT .any (a23.add 1) fun v24 =>
    k v24) (
    TAs v17 252 (.s (.one .ptr)) fun p25 =>
    NN p25 fun a26 =>
    LoadT .ptr (a26.add 1) fun p27 =>
    again10 rt_5 entry_6 v7 p27 (addI .u64 i_9 1)))) (
  bot)
theorem F152_L1_rule {k : Value → W} (I : Option Addr → Value → Value → Option Addr → Int → W) (μ : Option Addr → Value → Value → Option Addr → Int → World → Nat)
  (hr : ∀ (rt_5 : Option Addr) (entry_6 : Value) (v7 : Value) (sl_8 : Option Addr) (i_9 : Int) (w : World), I rt_5 entry_6 v7 sl_8 i_9 w → F152_L1 k (fun rt_5' entry_6' v7' sl_8' i_9' w' => I rt_5' entry_6' v7' sl_8' i_9' w' ∧ μ rt_5' entry_6' v7' sl_8' i_9' w' < μ rt_5 entry_6 v7 sl_8 i_9 w) rt_5 entry_6 v7 sl_8 i_9 w)
  {w : World} {rt_5 : Option Addr} {entry_6 : Value} {v7 : Value} {sl_8 : Option Addr} {i_9 : Int} (h : I rt_5 entry_6 v7 sl_8 i_9 w) : Loop [.ptr, .any, .any, .ptr, (.int .u64)] (F152_L1 k) rt_5 entry_6 v7 sl_8 i_9 w :=
  Loop_intro (ts := [.ptr, .any, .any, .ptr, (.int .u64)]) (s := (rt_5, entry_6, v7, sl_8, i_9, ())) (fun s w => I s.1 s.2.1 s.2.2.1 s.2.2.2.1 s.2.2.2.2.1 w) (fun s w => μ s.1 s.2.1 s.2.2.1 s.2.2.2.1 s.2.2.2.2.1 w) h (fun s w h => hr s.1 s.2.1 s.2.2.1 s.2.2.2.1 s.2.2.2.2.1 w h)
def F152 (k : Value → W) (rt_1 : Option Addr) (entry_2 : Value) : W :=
 NN rt_1 fun a3 =>
 LoadT .ptr a3 fun p4 =>
 Loop [.ptr, .any, .any, .ptr, (.int .u64)] (F152_L1 k) rt_1 entry_2 .nilIface p4 0
theorem F152_eq (k : Value → W) (rt_1 : Option Addr) (entry_2 : Value) : compF Go.Proofs.Try.prog Go.Proofs.Try.f152 [(5, [(0, .ptr), (1, .any), (4, .any), (5, .ptr), (8, (.int .u64))])] (Go.Proofs.Try.f152.body.getD .skip) [.pointer rt_1, entry_2] k = F152 k rt_1 entry_2 := by kernel_rfl
theorem F152_calls {rt_1 : Option Addr} {entry_2 : Value} {w : World} {R : Ending → World → Prop} (h : F152 (fun v w => R (.returned v) w) rt_1 entry_2 w) : Calls Go.Proofs.Try.prog 152 #[.pointer rt_1, entry_2] w R :=
  calls_of_compF noNum follows [(5, [(0, .ptr), (1, .any), (4, .any), (5, .ptr), (8, (.int .u64))])] (f := 152) (fn := Go.Proofs.Try.f152) (body := Go.Proofs.Try.f152.body.getD .skip) (args := [.pointer rt_1, entry_2]) rfl rfl (Nat.le_of_ble_eq_true rfl) ((congrFun (F152_eq _ rt_1 entry_2) w).mpr h)
theorem F152_call {rt_1 : Option Addr} {entry_2 : Value} {w : World} {g : Fn W (RTy.leaves (.s (.one .any)))} (h : F152 (fun v => Back (.s (.one .any)) g (.returned v)) rt_1 entry_2 w) : CallT Go.Proofs.Try.prog 152 [.pointer rt_1, entry_2] (.s (.one .any)) g w := F152_calls h

/-! ## skiplist.skipListRT).Get -/
def F145_L1 (k : Value → W) (again9 : Option Addr → Option Addr → Nat → Nat → Option Addr → Nat → Nat → Int → Int → W) (rt_4 : Option Addr) (results_5p : Option Addr) (results_5l : Nat) (results_5c : Nat) (s6p : Option Addr) (s6l : Nat) (s6c : Nat) (x7 : Int) (x8 : Int) : W :=
 BIf (decide (x8 < x7)) (
  NN s6p fun a10 =>
  Req (0 ≤ x8 ∧ x8 < ((s6l : Nat) : Int)) <|
  LoadT .any (a10.add x8.toNat) fun v11 =>
  CallT Go.Proofs.Try.prog 152 [.pointer rt_4, v11] (.s (.one .any)) fun v12 =>
  RawT Go.Proofs.Try.prog (Instr.buildSlice 144 1 [(0, v12)].toArray) (.s (.one .slice)) fun s13p s13l s13c =>
  NextT Go.Proofs.Try.prog (builtin .append #[144, 144] 144 [false, false].toArray [.slice results_5p results_5l results_5c, .slice s13p s13l s13c].toArray) (.s (.one .slice)) fun s14p s14l s14c =>
  again9 rt_4 s14p s14l s14c s6p s6l s6c x7 (addI .i64 x8 1)) (
  k (.slice results_5p results_5l results_5c))
theorem F145_L1_rule {k : Value → W} (I : Option Addr → Option Addr → Nat → Nat → Option Addr → Nat → Nat → Int → Int → W) (μ : Option Addr → Option Addr → Nat → Nat → Option Addr → Nat → Nat → Int → Int → World → Nat)
  (hr : ∀ (rt_4 : Option Addr) (results_5p : Option Addr) (results_5l : Nat) (results_5c : Nat) (s6p : Option Addr) (s6l : Nat) (s6c : Nat) (x7 : Int) (x8 : Int) (w : World), I rt_4 results_5p results_5l results_5c s6p s6l s6c x7 x8 w → F145_L1 k (fun rt_4' results_5p' results_5l' results_5c' s6p' s6l' s6c' x7' x8' w' => I rt_4' results_5p' results_5l' results_5c' s6p' s6l' s6c' x7' x8' w' ∧ μ rt_4' results_5p' results_5l' results_5c' s6p' s6l' s6c' x7' x8' w' < μ rt_4 results_5p results_5l results_5c s6p s6l s6c x7 x8 w) rt_4 results_5p results_5l results_5c s6p s6l s6c x7 x8 w)
  {w : World} {rt_4 : Option Addr} {results_5p : Option Addr} {results_5l : Nat} {results_5c : Nat} {s6p : Option Addr} {s6l : Nat} {s6c : Nat} {x7 : Int} {x8 : Int} (h : I rt_4 results_5p results_5l results_5c s6p s6l s6c x7 x8 w) : Loop [.ptr, .slice, .slice, (.int .i64), (.int .i64)] (F145_L1 k) rt_4 results_5p results_5l results_5c s6p s6l s6c x7 x8 w :=
  Loop_intro (ts := [.ptr, .slice, .slice, (.int .i64), (.int .i64)]) (s := (rt_4, (results_5p, results_5l, results_5c), (s6p, s6l, s6c), x7, x8, ())) (fun s w => I s.1 s.2.1.1 s.2.1.2.1 s.2.1.2.2 s.2.2.1.1 s.2.2.1.2.1 s.2.2.1.2.2 s.2.2.2.1 s.2.2.2.2.1 w) (fun s w => μ s.1 s.2.1.1 s.2.1.2.1 s.2.1.2.2 s.2.2.1.1 s.2.2.1.2.1 s.2.2.1.2.2 s.2.2.2.1 s.2.2.2.2.1 w) h (fun s w h => hr s.1 s.2.1.1 s.2.1.2.1 s.2.1.2.2 s.2.2.1.1 s.2.2.1.2.1 s.2.2.1.2.2 s.2.2.2.1 s.2.2.2.2.1 w h)
def F145 (k : Value → W) (rt_1 : Option Addr) (entries_2p : Option Addr) (entries_2l : Nat) (entries_2c : Nat) : W :=
 RawT Go.Proofs.Try.prog (Instr.makeSlice 144 (.int .i64 0) (.int .i64 ((entries_2l : Nat) : Int))) (.s (.one .slice)) fun s3p s3l s3c =>
 Loop [.ptr, .slice, .slice, (.int .i64), (.int .i64)] (F145_L1 k) rt_1 s3p s3l s3c entries_2p entries_2l entries_2c ((entries_2l : Nat) : Int) 0
theorem F145_eq (k : Value → W) (rt_1 : Option Addr) (entries_2p : Option Addr) (entries_2l : Nat) (entries_2c : Nat) : compF Go.Proofs.Try.prog Go.Proofs.Try.f145 [(3, [(0, .ptr), (5, .slice), (11, .slice), (12, (.int .i64)), (13, (.int .i64))])] (Go.Proofs.Try.f145.body.getD .skip) [.pointer rt_1, .slice entries_2p entries_2l entries_2c] k = F145 k rt_1 entries_2p entries_2l entries_2c := by kernel_rfl
theorem F145_calls {rt_1 : Option Addr} {entries_2p : Option Addr} {entries_2l : Nat} {entries_2c : Nat} {w : World} {R : Ending → World → Prop} (h : F145 (fun v w => R (.returned v) w) rt_1 entries_2p entries_2l entries_2c w) : Calls Go.Proofs.Try.prog 145 #[.pointer rt_1, .slice entries_2p entries_2l entries_2c] w R :=
  calls_of_compF noNum follows [(3, [(0, .ptr), (5, .slice), (11, .slice), (12, (.int .i64)), (13, (.int .i64))])] (f := 145) (fn := Go.Proofs.Try.f145) (body := Go.Proofs.Try.f145.body.getD .skip) (args := [.pointer rt_1, .slice entries_2p entries_2l entries_2c]) rfl rfl (Nat.le_of_ble_eq_true rfl) ((congrFun (F145_eq _ rt_1 entries_2p entries_2l entries_2c) w).mpr h)
theorem F145_call {rt_1 : Option Addr} {entries_2p : Option Addr} {entries_2l : Nat} {entries_2c : Nat} {w : World} {g : Fn W (RTy.leaves (.s (.one .slice)))} (h : F145 (fun v => Back (.s (.one .slice)) g (.returned v)) rt_1 entries_2p entries_2l entries_2c w) : CallT Go.Proofs.Try.prog 145 [.pointer rt_1, .slice entries_2p entries_2l entries_2c] (.s (.one .slice)) g w := F145_calls h

/-! ## skiplist.skipListRT).Len -/
def F147 (k : Value → W) (rt_1 : Option Addr) : W :=
 NN rt_1 fun a2 =>
 LoadT (.int .u64) (a2.add 2) fun x3 =>
 k (.int .u64 x3)
theorem F147_eq (k : Value → W) (rt_1 : Option Addr) : compF Go.Proofs.Try.prog Go.Proofs.Try.f147 [] (Go.Proofs.Try.f147.body.getD .skip) [.pointer rt_1] k = F147 k rt_1 := by kernel_rfl
theorem F147_calls {rt_1 : Option Addr} {w : World} {R : Ending → World → Prop} (h : F147 (fun v w => R (.returned v) w) rt_1 w) : Calls Go.Proofs.Try.prog 147 #[.pointer rt_1] w R :=
  calls_of_compF noNum follows [] (f := 147) (fn := Go.Proofs.Try.f147) (body := Go.Proofs.Try.f147.body.getD .skip) (args := [.pointer rt_1]) rfl rfl (Nat.le_of_ble_eq_true rfl) ((congrFun (F147_eq _ rt_1) w).mpr h)
theorem F147_call {rt_1 : Option Addr} {w : World} {g : Fn W (RTy.leaves (.s (.one (.int .u64))))} (h : F147 (fun v => Back (.s (.one (.int .u64))) g (.returned v)) rt_1 w) : CallT Go.Proofs.Try.prog 147 [.pointer rt_1] (.s (.one (.int .u64))) g w := F147_calls h

/-! ## skiplist.skipListRT).init -/
def F82 (k : Value → W) (rt_1 : Option Addr) (dimensions_2 : Int) : W :=
 NN rt_1 fun a3 =>
 Store1 (a3.add 1) (.int .u64 dimensions_2) <|
 NN rt_1 fun a4 =>
 LoadT (.int .u64) (a4.add 3) fun x5 =>
 CallT Go.Proofs.Try.prog 21 [.iface 33 (.int .u64 0), .int .u64 x5] (.s (.one .ptr)) fun p6 =>
 NN rt_1 fun a7 =>
 Store1 a7 (.pointer p6) <|
 k (.tuple #[])
theorem F82_eq (k : Value → W) (rt_1 : Option Addr) (dimensions_2 : Int) : compF Go.Proofs.Try.prog Go.Proofs.Try.f82 [] (Go.Proofs.Try.f82.body.getD .skip) [.pointer rt_1, .int .u64 dimensions_2] k = F82 k rt_1 dimensions_2 := by kernel_rfl
theorem F82_calls {rt_1 : Option Addr} {dimensions_2 : Int} {w : World} {R : Ending → World → Prop} (h : F82 (fun v w => R (.returned v) w) rt_1 dimensions_2 w) : Calls Go.Proofs.Try.prog 82 #[.pointer rt_1, .int .u64 dimensions_2] w R :=
  calls_of_compF noNum follows [] (f := 82) (fn := Go.Proofs.Try.f82) (body := Go.Proofs.Try.f82.body.getD .skip) (args := [.pointer rt_1, .int .u64 dimensions_2]) rfl rfl (Nat.le_of_ble_eq_true rfl) ((congrFun (F82_eq _ rt_1 dimensions_2) w).mpr h)
theorem F82_call {rt_1 : Option Addr} {dimensions_2 : Int} {w : World} {g : Fn W (RTy.leaves (.tup []))} (h : F82 (fun v => Back (.tup []) g (.returned v)) rt_1 dimensions_2 w) : CallT Go.Proofs.Try.prog 82 [.pointer rt_1, .int .u64 dimensions_2] (.tup []) g w := F82_calls h

/-! ## skiplist.NewSeeded -/
def F56 (k : Value → W) (dimensions_1 : Int) (seed_2 : Int) : W :=
 New [.pointer none, .int .u64 0, .int .u64 0, .int .u64 seed_2] 176 fun n3 =>
 CallT Go.Proofs.Try.prog 82 [.pointer (some ⟨n3, 0, none⟩), .int .u64 dimensions_1] (.tup []) <|
 k (.iface 174 (.pointer (some ⟨n3, 0, none⟩)))
theorem F56_eq (k : Value → W) (dimensions_1 : Int) (seed_2 : Int) : compF Go.Proofs.Try.prog Go.Proofs.Try.f56 [] (Go.Proofs.Try.f56.body.getD .skip) [.int .u64 dimensions_1, .int .u64 seed_2] k = F56 k dimensions_1 seed_2 := by kernel_rfl
theorem F56_calls {dimensions_1 : Int} {seed_2 : Int} {w : World} {R : Ending → World → Prop} (h : F56 (fun v w => R (.returned v) w) dimensions_1 seed_2 w) : Calls Go.Proofs.Try.prog 56 #[.int .u64 dimensions_1, .int .u64 seed_2] w R :=
  calls_of_compF noNum follows [] (f := 56) (fn := Go.Proofs.Try.f56) (body := Go.Proofs.Try.f56.body.getD .skip) (args := [.int .u64 dimensions_1, .int .u64 seed_2]) rfl rfl (Nat.le_of_ble_eq_true rfl) ((congrFun (F56_eq _ dimensions_1 seed_2) w).mpr h)
theorem F56_call {dimensions_1 : Int} {seed_2 : Int} {w : World} {g : Fn W (RTy.leaves (.s (.one .any)))} (h : F56 (fun v => Back (.s (.one .any)) g (.returned v)) dimensions_1 seed_2 w) : CallT Go.Proofs.Try.prog 56 [.int .u64 dimensions_1, .int .u64 seed_2] (.s (.one .any)) g w := F56_calls h

end Go.Proofs.Ytfokodpnoiilbaa.E
