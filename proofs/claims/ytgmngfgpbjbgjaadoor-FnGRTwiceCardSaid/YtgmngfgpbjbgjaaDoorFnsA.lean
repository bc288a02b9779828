/-
  Printed by this session's own program eng.py out of Lean's print of the loaded functions: what each function's body asks, in the engine's words; each is checked against the program by the kernel.
-/
import Derived.Test.YtgmngfgpbjbgjaaDoorEng
import Derived.Test.YtgmngfgpbjbgjaaDoorProg
namespace Go.Proofs.YtgmngfgpbjbgjaaDoor.E
open Go
set_option linter.unusedVariables false
set_option maxRecDepth 100000
theorem noNum : NoNum Go.Proofs.Tryd.prog := noNum_of (by kernel_rfl)
theorem follows : (Go.Proofs.Tryd.prog).follows .mixedOrders = true := by kernel_rfl

/-! ## laws.dgFew -/
def F5_L1 (k : Value → W) (again6 : Option Addr → Nat → Nat → Option Addr → Nat → Nat → Int → Int → W) (l_2p : Option Addr) (l_2l : Nat) (l_2c : Nat) (s3p : Option Addr) (s3l : Nat) (s3c : Nat) (x4 : Int) (x5 : Int) : W :=
 BIf (decide (x5 < x4)) (
  NN s3p fun a7 =>
  Req (0 ≤ x5 ∧ x5 < ((s3l : Nat) : Int)) <|
  LoadT (.int .i64) ((a7.add (x5.toNat * 2)).add 0) fun x8 =>
  LoadT (.int .i64) ((a7.add (x5.toNat * 2)).add 1) fun x9 =>
  New [.int .i64 0, .int .i64 0] 33 fun n10 =>
  Store1 ⟨n10, 0, none⟩ (.int .i64 x8) <|
  Store1 ⟨n10, 1, none⟩ (.int .i64 x9) <|
  LoadT (.int .i64) ⟨n10, 0, none⟩ fun x11 =>
  BIf (decide (x11 < 0)) (
   k (.bool false)) (
   LoadT (.int .i64) ⟨n10, 0, none⟩ fun x12 =>
   BIf (decide (x12 > 12)) (
    k (.bool false)) (
    LoadT (.int .i64) ⟨n10, 1, none⟩ fun x13 =>
    BIf (decide (x13 < 0)) (
     k (.bool false)) (
     LoadT (.int .i64) ⟨n10, 1, none⟩ fun x14 =>
     BIf (decide (x14 > 12)) (
      k (.bool false)) (
      again6 l_2p l_2l l_2c s3p s3l s3c x4 (addI .i64 x5 1)))))) (
  BIf (decide (((l_2l : Nat) : Int) > 0)) (
   Bind (decide (((l_2l : Nat) : Int) ≤ 20)) fun y15 =>
   k (.bool y15)) (
   k (.bool false)))
theorem F5_L1_rule {k : Value → W} (I : Option Addr → Nat → Nat → Option Addr → Nat → Nat → Int → Int → W) (μ : Option Addr → Nat → Nat → Option Addr → Nat → Nat → Int → Int → World → Nat)
  (hr : ∀ (l_2p : Option Addr) (l_2l : Nat) (l_2c : Nat) (s3p : Option Addr) (s3l : Nat) (s3c : Nat) (x4 : Int) (x5 : Int) (w : World), I l_2p l_2l l_2c s3p s3l s3c x4 x5 w → F5_L1 k (fun l_2p' l_2l' l_2c' s3p' s3l' s3c' x4' x5' w' => I l_2p' l_2l' l_2c' s3p' s3l' s3c' x4' x5' w' ∧ μ l_2p' l_2l' l_2c' s3p' s3l' s3c' x4' x5' w' < μ l_2p l_2l l_2c s3p s3l s3c x4 x5 w) l_2p l_2l l_2c s3p s3l s3c x4 x5 w)
  {w : World} {l_2p : Option Addr} {l_2l : Nat} {l_2c : Nat} {s3p : Option Addr} {s3l : Nat} {s3c : Nat} {x4 : Int} {x5 : Int} (h : I l_2p l_2l l_2c s3p s3l s3c x4 x5 w) : Loop [.slice, .slice, (.int .i64), (.int .i64)] (F5_L1 k) l_2p l_2l l_2c s3p s3l s3c x4 x5 w :=
  Loop_intro (ts := [.slice, .slice, (.int .i64), (.int .i64)]) (s := ((l_2p, l_2l, l_2c), (s3p, s3l, s3c), x4, x5, ())) (fun s w => I s.1.1 s.1.2.1 s.1.2.2 s.2.1.1 s.2.1.2.1 s.2.1.2.2 s.2.2.1 s.2.2.2.1 w) (fun s w => μ s.1.1 s.1.2.1 s.1.2.2 s.2.1.1 s.2.1.2.1 s.2.1.2.2 s.2.2.1 s.2.2.2.1 w) h (fun s w h => hr s.1.1 s.1.2.1 s.1.2.2 s.2.1.1 s.2.1.2.1 s.2.1.2.2 s.2.2.1 s.2.2.2.1 w h)
def F5 (k : Value → W) (l_1p : Option Addr) (l_1l : Nat) (l_1c : Nat) : W :=
 Loop [.slice, .slice, (.int .i64), (.int .i64)] (F5_L1 k) l_1p l_1l l_1c l_1p l_1l l_1c ((l_1l : Nat) : Int) 0
theorem F5_eq (k : Value → W) (l_1p : Option Addr) (l_1l : Nat) (l_1c : Nat) : compF Go.Proofs.Tryd.prog Go.Proofs.Tryd.f5 [(2, [(0, .slice), (5, .slice), (6, (.int .i64)), (7, (.int .i64))])] (Go.Proofs.Tryd.f5.body.getD .skip) [.slice l_1p l_1l l_1c] k = F5 k l_1p l_1l l_1c := by kernel_rfl
theorem F5_calls {l_1p : Option Addr} {l_1l : Nat} {l_1c : Nat} {w : World} {R : Ending → World → Prop} (h : F5 (fun v w => R (.returned v) w) l_1p l_1l l_1c w) : Calls Go.Proofs.Tryd.prog 5 #[.slice l_1p l_1l l_1c] w R :=
  calls_of_compF noNum follows [(2, [(0, .slice), (5, .slice), (6, (.int .i64)), (7, (.int .i64))])] (f := 5) (fn := Go.Proofs.Tryd.f5) (body := Go.Proofs.Tryd.f5.body.getD .skip) (args := [.slice l_1p l_1l l_1c]) rfl rfl (Nat.le_of_ble_eq_true rfl) ((congrFun (F5_eq _ l_1p l_1l l_1c) w).mpr h)
theorem F5_call {l_1p : Option Addr} {l_1l : Nat} {l_1c : Nat} {w : World} {g : Fn W (RTy.leaves (.s (.one .bool)))} (h : F5 (fun v => Back (.s (.one .bool)) g (.returned v)) l_1p l_1l l_1c w) : CallT Go.Proofs.Tryd.prog 5 [.slice l_1p l_1l l_1c] (.s (.one .bool)) g w := F5_calls h

/-! ## impl.grError -/
def F16 (k : Value → W) (e_1 : Value) : W :=
 IfaceNil e_1 fun b2 =>
 BIf b2 (
  k (.int .i64 0)) (
  LoadT .any ⟨0, 0, none⟩ fun v3 =>
  RawS Go.Proofs.Tryd.prog (binS .eql 41 (.tmp 3) (.tmp 7) e_1 v3) (.s (.one .bool)) fun b4 =>
  BIf b4 (
   k (.int .i64 1)) (
   LoadT .any ⟨1, 0, none⟩ fun v5 =>
   RawS Go.Proofs.Tryd.prog (binS .eql 41 (.tmp 3) (.tmp 10) e_1 v5) (.s (.one .bool)) fun b6 =>
   BIf b6 (
    k (.int .i64 2)) (
    LoadT .any ⟨2, 0, none⟩ fun v7 =>
    RawS Go.Proofs.Tryd.prog (binS .eql 41 (.tmp 3) (.tmp 13) e_1 v7) (.s (.one .bool)) fun b8 =>
    BIf b8 (
     k (.int .i64 3)) (
     k (.int .i64 4)))))
theorem F16_eq (k : Value → W) (e_1 : Value) : compF Go.Proofs.Tryd.prog Go.Proofs.Tryd.f16 [] (Go.Proofs.Tryd.f16.body.getD .skip) [e_1] k = F16 k e_1 := by kernel_rfl
theorem F16_calls {e_1 : Value} {w : World} {R : Ending → World → Prop} (h : F16 (fun v w => R (.returned v) w) e_1 w) : Calls Go.Proofs.Tryd.prog 16 #[e_1] w R :=
  calls_of_compF noNum follows [] (f := 16) (fn := Go.Proofs.Tryd.f16) (body := Go.Proofs.Tryd.f16.body.getD .skip) (args := [e_1]) rfl rfl (Nat.le_of_ble_eq_true rfl) ((congrFun (F16_eq _ e_1) w).mpr h)
theorem F16_call {e_1 : Value} {w : World} {g : Fn W (RTy.leaves (.s (.one (.int .i64))))} (h : F16 (fun v => Back (.s (.one (.int .i64))) g (.returned v)) e_1 w) : CallT Go.Proofs.Tryd.prog 16 [e_1] (.s (.one (.int .i64))) g w := F16_calls h

/-! ## graph.NewSimpleGraph -/
def F18 (k : Value → W) : W :=
 RawT Go.Proofs.Tryd.prog (Instr.makeMap 48 none) (.s (.one .map)) fun m1 =>
 New [.map m1, .int .i64 0, .int .i64 0] 50 fun n2 =>
 k (.pointer (some ⟨n2, 0, none⟩))
theorem F18_eq (k : Value → W) : compF Go.Proofs.Tryd.prog Go.Proofs.Tryd.f18 [] (Go.Proofs.Tryd.f18.body.getD .skip) [] k = F18 k  := by kernel_rfl
theorem F18_calls {w : World} {R : Ending → World → Prop} (h : F18 (fun v w => R (.returned v) w)  w) : Calls Go.Proofs.Tryd.prog 18 #[] w R :=
  calls_of_compF noNum follows [] (f := 18) (fn := Go.Proofs.Tryd.f18) (body := Go.Proofs.Tryd.f18.body.getD .skip) (args := []) rfl rfl (Nat.le_of_ble_eq_true rfl) ((congrFun (F18_eq _ ) w).mpr h)
theorem F18_call {w : World} {g : Fn W (RTy.leaves (.s (.one .ptr)))} (h : F18 (fun v => Back (.s (.one .ptr)) g (.returned v))  w) : CallT Go.Proofs.Tryd.prog 18 [] (.s (.one .ptr)) g w := F18_calls h

/-! ## graph.SimpleGraph).addVertex -/
def F21 (k : Value → W) (g_1 : Option Addr) (v_2 : Value) : W :=
 NN g_1 fun a3 =>
 LoadT .map a3 fun m4 =>
 RawS Go.Proofs.Tryd.prog (Instr.lookup 48 (.map m4) v_2 true) (.tup [(.one .map), (.one .bool)]) fun m5 b6 =>
 BIf (!b6) (
  RawT Go.Proofs.Tryd.prog (Instr.makeMap 53 none) (.s (.one .map)) fun m7 =>
  NN g_1 fun a8 =>
  LoadT .map a8 fun m9 =>
  RawU Go.Proofs.Tryd.prog (Instr.mapUpdate 48 (.map m9) v_2 (.map m7)) <|
  NN g_1 fun a10 =>
  LoadT (.int .i64) (a10.add 1) fun x11 =>
  Store1 (a10.add 1) (.int .i64 (addI .i64 x11 1)) <|
  k (.tuple #[])) (
  k (.tuple #[]))
theorem F21_eq (k : Value → W) (g_1 : Option Addr) (v_2 : Value) : compF Go.Proofs.Tryd.prog Go.Proofs.Tryd.f21 [] (Go.Proofs.Tryd.f21.body.getD .skip) [.pointer g_1, v_2] k = F21 k g_1 v_2 := by kernel_rfl
theorem F21_calls {g_1 : Option Addr} {v_2 : Value} {w : World} {R : Ending → World → Prop} (h : F21 (fun v w => R (.returned v) w) g_1 v_2 w) : Calls Go.Proofs.Tryd.prog 21 #[.pointer g_1, v_2] w R :=
  calls_of_compF noNum follows [] (f := 21) (fn := Go.Proofs.Tryd.f21) (body := Go.Proofs.Tryd.f21.body.getD .skip) (args := [.pointer g_1, v_2]) rfl rfl (Nat.le_of_ble_eq_true rfl) ((congrFun (F21_eq _ g_1 v_2) w).mpr h)
theorem F21_call {g_1 : Option Addr} {v_2 : Value} {w : World} {g : Fn W (RTy.leaves (.tup []))} (h : F21 (fun v => Back (.tup []) g (.returned v)) g_1 v_2 w) : CallT Go.Proofs.Tryd.prog 21 [.pointer g_1, v_2] (.tup []) g w := F21_calls h

/-! ## graph.SimpleGraph).AddEdge -/
def F19 (k : Value → W) (g_1 : Option Addr) (v_2 : Value) (w_3 : Value) : W :=
 RawS Go.Proofs.Tryd.prog (binS .eql 20 (.tmp 9) (.tmp 10) v_2 w_3) (.s (.one .bool)) fun b4 =>
 BIf b4 (
  LoadT .any ⟨1, 0, none⟩ fun v5 =>
  k v5) (
  CallT Go.Proofs.Tryd.prog 21 [.pointer g_1, v_2] (.tup []) <|
  CallT Go.Proofs.Tryd.prog 21 [.pointer g_1, w_3] (.tup []) <|
  NN g_1 fun a6 =>
  LoadT .map a6 fun m7 =>
  RawS Go.Proofs.Tryd.prog (Instr.lookup 48 (.map m7) v_2 false) (.s (.one .map)) fun m8 =>
  RawS Go.Proofs.Tryd.prog (Instr.lookup 53 (.map m8) w_3 true) (.tup [(.agg []), (.one .bool)]) fun b9 =>
  New [] 55 fun n10 =>
  BIf b9 (
   LoadT .any ⟨2, 0, none⟩ fun v11 =>
   k v11) (
   NN g_1 fun a12 =>
   LoadT .map a12 fun m13 =>
   RawS Go.Proofs.Tryd.prog (Instr.lookup 48 (.map m13) v_2 false) (.s (.one .map)) fun m14 =>
   RawU Go.Proofs.Tryd.prog (Instr.mapUpdate 53 (.map m14) w_3 (.agg #[])) <|
   NN g_1 fun a15 =>
   LoadT .map a15 fun m16 =>
   RawS Go.Proofs.Tryd.prog (Instr.lookup 48 (.map m16) w_3 false) (.s (.one .map)) fun m17 =>
   RawU Go.Proofs.Tryd.prog (Instr.mapUpdate 53 (.map m17) v_2 (.agg #[])) <|
   NN g_1 fun a18 =>
   LoadT (.int .i64) (a18.add 2) fun x19 =>
   Store1 (a18.add 2) (.int .i64 (addI .i64 x19 1)) <|
   k .nilIface))
theorem F19_eq (k : Value → W) (g_1 : Option Addr) (v_2 : Value) (w_3 : Value) : compF Go.Proofs.Tryd.prog Go.Proofs.Tryd.f19 [] (Go.Proofs.Tryd.f19.body.getD .skip) [.pointer g_1, v_2, w_3] k = F19 k g_1 v_2 w_3 := by kernel_rfl
theorem F19_calls {g_1 : Option Addr} {v_2 : Value} {w_3 : Value} {w : World} {R : Ending → World → Prop} (h : F19 (fun v w => R (.returned v) w) g_1 v_2 w_3 w) : Calls Go.Proofs.Tryd.prog 19 #[.pointer g_1, v_2, w_3] w R :=
  calls_of_compF noNum follows [] (f := 19) (fn := Go.Proofs.Tryd.f19) (body := Go.Proofs.Tryd.f19.body.getD .skip) (args := [.pointer g_1, v_2, w_3]) rfl rfl (Nat.le_of_ble_eq_true rfl) ((congrFun (F19_eq _ g_1 v_2 w_3) w).mpr h)
theorem F19_call {g_1 : Option Addr} {v_2 : Value} {w_3 : Value} {w : World} {g : Fn W (RTy.leaves (.s (.one .any)))} (h : F19 (fun v => Back (.s (.one .any)) g (.returned v)) g_1 v_2 w_3 w) : CallT Go.Proofs.Tryd.prog 19 [.pointer g_1, v_2, w_3] (.s (.one .any)) g w := F19_calls h

/-! ## impl.grOf -/
def F12_L1 (k : Value → W) (again8 : Option Addr → Option Addr → Nat → Nat → Option Addr → Nat → Nat → Int → Int → W) (g_3 : Option Addr) (errs_4p : Option Addr) (errs_4l : Nat) (errs_4c : Nat) (s5p : Option Addr) (s5l : Nat) (s5c : Nat) (x6 : Int) (x7 : Int) : W :=
 BIf (decide (x7 < x6)) (
  NN s5p fun a9 =>
  Req (0 ≤ x7 ∧ x7 < ((s5l : Nat) : Int)) <|
  LoadT (.int .i64) ((a9.add (x7.toNat * 2)).add 0) fun x10 =>
  LoadT (.int .i64) ((a9.add (x7.toNat * 2)).add 1) fun x11 =>
  New [.int .i64 0, .int .i64 0] 33 fun n12 =>
  Store1 ⟨n12, 0, none⟩ (.int .i64 x10) <|
  Store1 ⟨n12, 1, none⟩ (.int .i64 x11) <|
  LoadT (.int .i64) ⟨n12, 0, none⟩ fun x13 =>
  LoadT (.int .i64) ⟨n12, 1, none⟩ fun x14 =>
  CallT Go.Proofs.Tryd.prog 19 [.pointer g_3, .iface 3 (.int .i64 x13), .iface 3 (.int .i64 x14)] (.s (.one .any)) fun v15 =>
  CallT Go.Proofs.Tryd.prog 16 [v15] (.s (.one (.int .i64))) fun x16 =>
  RawT Go.Proofs.Tryd.prog (Instr.buildSlice 24 1 [(0, .int .i64 x16)].toArray) (.s (.one .slice)) fun s17p s17l s17c =>
  NextT Go.Proofs.Tryd.prog (builtin .append #[24, 24] 24 [false, false].toArray [.slice errs_4p errs_4l errs_4c, .slice s17p s17l s17c].toArray) (.s (.one .slice)) fun s18p s18l s18c =>
  again8 g_3 s18p s18l s18c s5p s5l s5c x6 (addI .i64 x7 1)) (
  k (.tuple #[.pointer g_3, .slice errs_4p errs_4l errs_4c]))
theorem F12_L1_rule {k : Value → W} (I : Option Addr → Option Addr → Nat → Nat → Option Addr → Nat → Nat → Int → Int → W) (μ : Option Addr → Option Addr → Nat → Nat → Option Addr → Nat → Nat → Int → Int → World → Nat)
  (hr : ∀ (g_3 : Option Addr) (errs_4p : Option Addr) (errs_4l : Nat) (errs_4c : Nat) (s5p : Option Addr) (s5l : Nat) (s5c : Nat) (x6 : Int) (x7 : Int) (w : World), I g_3 errs_4p errs_4l errs_4c s5p s5l s5c x6 x7 w → F12_L1 k (fun g_3' errs_4p' errs_4l' errs_4c' s5p' s5l' s5c' x6' x7' w' => I g_3' errs_4p' errs_4l' errs_4c' s5p' s5l' s5c' x6' x7' w' ∧ μ g_3' errs_4p' errs_4l' errs_4c' s5p' s5l' s5c' x6' x7' w' < μ g_3 errs_4p errs_4l errs_4c s5p s5l s5c x6 x7 w) g_3 errs_4p errs_4l errs_4c s5p s5l s5c x6 x7 w)
  {w : World} {g_3 : Option Addr} {errs_4p : Option Addr} {errs_4l : Nat} {errs_4c : Nat} {s5p : Option Addr} {s5l : Nat} {s5c : Nat} {x6 : Int} {x7 : Int} (h : I g_3 errs_4p errs_4l errs_4c s5p s5l s5c x6 x7 w) : Loop [.ptr, .slice, .slice, (.int .i64), (.int .i64)] (F12_L1 k) g_3 errs_4p errs_4l errs_4c s5p s5l s5c x6 x7 w :=
  Loop_intro (ts := [.ptr, .slice, .slice, (.int .i64), (.int .i64)]) (s := (g_3, (errs_4p, errs_4l, errs_4c), (s5p, s5l, s5c), x6, x7, ())) (fun s w => I s.1 s.2.1.1 s.2.1.2.1 s.2.1.2.2 s.2.2.1.1 s.2.2.1.2.1 s.2.2.1.2.2 s.2.2.2.1 s.2.2.2.2.1 w) (fun s w => μ s.1 s.2.1.1 s.2.1.2.1 s.2.1.2.2 s.2.2.1.1 s.2.2.1.2.1 s.2.2.1.2.2 s.2.2.2.1 s.2.2.2.2.1 w) h (fun s w h => hr s.1 s.2.1.1 s.2.1.2.1 s.2.1.2.2 s.2.2.1.1 s.2.2.1.2.1 s.2.2.1.2.2 s.2.2.2.1 s.2.2.2.2.1 w h)
def F12 (k : Value → W) (l_1p : Option Addr) (l_1l : Nat) (l_1c : Nat) : W :=
 CallT Go.Proofs.Tryd.prog 18 [] (.s (.one .ptr)) fun p2 =>
 Loop [.ptr, .slice, .slice, (.int .i64), (.int .i64)] (F12_L1 k) p2 none 0 0 l_1p l_1l l_1c ((l_1l : Nat) : Int) 0
theorem F12_eq (k : Value → W) (l_1p : Option Addr) (l_1l : Nat) (l_1c : Nat) : compF Go.Proofs.Tryd.prog Go.Proofs.Tryd.f12 [(4, [(4, .ptr), (5, .slice), (9, .slice), (10, (.int .i64)), (11, (.int .i64))])] (Go.Proofs.Tryd.f12.body.getD .skip) [.slice l_1p l_1l l_1c] k = F12 k l_1p l_1l l_1c := by kernel_rfl
theorem F12_calls {l_1p : Option Addr} {l_1l : Nat} {l_1c : Nat} {w : World} {R : Ending → World → Prop} (h : F12 (fun v w => R (.returned v) w) l_1p l_1l l_1c w) : Calls Go.Proofs.Tryd.prog 12 #[.slice l_1p l_1l l_1c] w R :=
  calls_of_compF noNum follows [(4, [(4, .ptr), (5, .slice), (9, .slice), (10, (.int .i64)), (11, (.int .i64))])] (f := 12) (fn := Go.Proofs.Tryd.f12) (body := Go.Proofs.Tryd.f12.body.getD .skip) (args := [.slice l_1p l_1l l_1c]) rfl rfl (Nat.le_of_ble_eq_true rfl) ((congrFun (F12_eq _ l_1p l_1l l_1c) w).mpr h)
theorem F12_call {l_1p : Option Addr} {l_1l : Nat} {l_1c : Nat} {w : World} {g : Fn W (RTy.leaves (.tup [(.one .ptr), (.one .slice)]))} (h : F12 (fun v => Back (.tup [(.one .ptr), (.one .slice)]) g (.returned v)) l_1p l_1l l_1c w) : CallT Go.Proofs.Tryd.prog 12 [.slice l_1p l_1l l_1c] (.tup [(.one .ptr), (.one .slice)]) g w := F12_calls h

/-! ## graph.SimpleGraph).V -/
def F13 (k : Value → W) (g_1 : Option Addr) : W :=
 NN g_1 fun a2 =>
 LoadT (.int .i64) (a2.add 1) fun x3 =>
 k (.int .i64 x3)
theorem F13_eq (k : Value → W) (g_1 : Option Addr) : compF Go.Proofs.Tryd.prog Go.Proofs.Tryd.f13 [] (Go.Proofs.Tryd.f13.body.getD .skip) [.pointer g_1] k = F13 k g_1 := by kernel_rfl
theorem F13_calls {g_1 : Option Addr} {w : World} {R : Ending → World → Prop} (h : F13 (fun v w => R (.returned v) w) g_1 w) : Calls Go.Proofs.Tryd.prog 13 #[.pointer g_1] w R :=
  calls_of_compF noNum follows [] (f := 13) (fn := Go.Proofs.Tryd.f13) (body := Go.Proofs.Tryd.f13.body.getD .skip) (args := [.pointer g_1]) rfl rfl (Nat.le_of_ble_eq_true rfl) ((congrFun (F13_eq _ g_1) w).mpr h)
theorem F13_call {g_1 : Option Addr} {w : World} {g : Fn W (RTy.leaves (.s (.one (.int .i64))))} (h : F13 (fun v => Back (.s (.one (.int .i64))) g (.returned v)) g_1 w) : CallT Go.Proofs.Tryd.prog 13 [.pointer g_1] (.s (.one (.int .i64))) g w := F13_calls h

/-! ## graph.SimpleGraph).E -/
def F14 (k : Value → W) (g_1 : Option Addr) : W :=
 NN g_1 fun a2 =>
 LoadT (.int .i64) (a2.add 2) fun x3 =>
 k (.int .i64 x3)
theorem F14_eq (k : Value → W) (g_1 : Option Addr) : compF Go.Proofs.Tryd.prog Go.Proofs.Tryd.f14 [] (Go.Proofs.Tryd.f14.body.getD .skip) [.pointer g_1] k = F14 k g_1 := by kernel_rfl
theorem F14_calls {g_1 : Option Addr} {w : World} {R : Ending → World → Prop} (h : F14 (fun v w => R (.returned v) w) g_1 w) : Calls Go.Proofs.Tryd.prog 14 #[.pointer g_1] w R :=
  calls_of_compF noNum follows [] (f := 14) (fn := Go.Proofs.Tryd.f14) (body := Go.Proofs.Tryd.f14.body.getD .skip) (args := [.pointer g_1]) rfl rfl (Nat.le_of_ble_eq_true rfl) ((congrFun (F14_eq _ g_1) w).mpr h)
theorem F14_call {g_1 : Option Addr} {w : World} {g : Fn W (RTy.leaves (.s (.one (.int .i64))))} (h : F14 (fun v => Back (.s (.one (.int .i64))) g (.returned v)) g_1 w) : CallT Go.Proofs.Tryd.prog 14 [.pointer g_1] (.s (.one (.int .i64))) g w := F14_calls h

/-! ## impl.GRRun -/
def F6 (k : Value → W) (l_1p : Option Addr) (l_1l : Nat) (l_1c : Nat) : W :=
 CallT Go.Proofs.Tryd.prog 12 [.slice l_1p l_1l l_1c] (.tup [(.one .ptr), (.one .slice)]) fun p2 s3p s3l s3c =>
 CallT Go.Proofs.Tryd.prog 13 [.pointer p2] (.s (.one (.int .i64))) fun x4 =>
 CallT Go.Proofs.Tryd.prog 14 [.pointer p2] (.s (.one (.int .i64))) fun x5 =>
 k (.tuple #[.slice s3p s3l s3c, .int .i64 x4, .int .i64 x5])
theorem F6_eq (k : Value → W) (l_1p : Option Addr) (l_1l : Nat) (l_1c : Nat) : compF Go.Proofs.Tryd.prog Go.Proofs.Tryd.f6 [] (Go.Proofs.Tryd.f6.body.getD .skip) [.slice l_1p l_1l l_1c] k = F6 k l_1p l_1l l_1c := by kernel_rfl
theorem F6_calls {l_1p : Option Addr} {l_1l : Nat} {l_1c : Nat} {w : World} {R : Ending → World → Prop} (h : F6 (fun v w => R (.returned v) w) l_1p l_1l l_1c w) : Calls Go.Proofs.Tryd.prog 6 #[.slice l_1p l_1l l_1c] w R :=
  calls_of_compF noNum follows [] (f := 6) (fn := Go.Proofs.Tryd.f6) (body := Go.Proofs.Tryd.f6.body.getD .skip) (args := [.slice l_1p l_1l l_1c]) rfl rfl (Nat.le_of_ble_eq_true rfl) ((congrFun (F6_eq _ l_1p l_1l l_1c) w).mpr h)
theorem F6_call {l_1p : Option Addr} {l_1l : Nat} {l_1c : Nat} {w : World} {g : Fn W (RTy.leaves (.tup [(.one .slice), (.one (.int .i64)), (.one (.int .i64))]))} (h : F6 (fun v => Back (.tup [(.one .slice), (.one (.int .i64)), (.one (.int .i64))]) g (.returned v)) l_1p l_1l l_1c w) : CallT Go.Proofs.Tryd.prog 6 [.slice l_1p l_1l l_1c] (.tup [(.one .slice), (.one (.int .i64)), (.one (.int .i64))]) g w := F6_calls h

/-! ## graph.SimpleGraph).Degree -/
def F20 (k : Value → W) (g_1 : Option Addr) (v_2 : Value) : W :=
 NN g_1 fun a3 =>
 LoadT .map a3 fun m4 =>
 RawS Go.Proofs.Tryd.prog (Instr.lookup 48 (.map m4) v_2 true) (.tup [(.one .map), (.one .bool)]) fun m5 b6 =>
 BIf (!b6) (
  Drw <|
  LoadT .any ⟨0, 0, none⟩ fun v7 =>
  k (.tuple #[.int .i64 0, v7])) (
  NextT Go.Proofs.Tryd.prog (builtin .len #[53] 3 [false].toArray [.map m5].toArray) (.s (.one (.int .i64))) fun x8 =>
  k (.tuple #[.int .i64 x8, .nilIface]))
theorem F20_eq (k : Value → W) (g_1 : Option Addr) (v_2 : Value) : compF Go.Proofs.Tryd.prog Go.Proofs.Tryd.f20 [] (Go.Proofs.Tryd.f20.body.getD .skip) [.pointer g_1, v_2] k = F20 k g_1 v_2 := by kernel_rfl
theorem F20_calls {g_1 : Option Addr} {v_2 : Value} {w : World} {R : Ending → World → Prop} (h : F20 (fun v w => R (.returned v) w) g_1 v_2 w) : Calls Go.Proofs.Tryd.prog 20 #[.pointer g_1, v_2] w R :=
  calls_of_compF noNum follows [] (f := 20) (fn := Go.Proofs.Tryd.f20) (body := Go.Proofs.Tryd.f20.body.getD .skip) (args := [.pointer g_1, v_2]) rfl rfl (Nat.le_of_ble_eq_true rfl) ((congrFun (F20_eq _ g_1 v_2) w).mpr h)
theorem F20_call {g_1 : Option Addr} {v_2 : Value} {w : World} {g : Fn W (RTy.leaves (.tup [(.one (.int .i64)), (.one .any)]))} (h : F20 (fun v => Back (.tup [(.one (.int .i64)), (.one .any)]) g (.returned v)) g_1 v_2 w) : CallT Go.Proofs.Tryd.prog 20 [.pointer g_1, v_2] (.tup [(.one (.int .i64)), (.one .any)]) g w := F20_calls h

/-! ## graph.SimpleGraph).Adj -/
def F15_L1 (k : Value → W) (again15 : Option Addr → Nat → Nat → Int → Value → W) (adj_12p : Option Addr) (adj_12l : Nat) (adj_12c : Nat) (i_13 : Int) (v14 : Value) : W :=
 RawT Go.Proofs.Tryd.prog (Instr.next v14 false 0) (.s (.one .any)) fun v16 =>
 ExtW v16 0 (.one .bool) fun b17 =>
 BIf b17 (
  RawT Go.Proofs.Tryd.prog (Instr.entry v14) (.s (.one .any)) fun v18 =>
  ExtW v18 0 (.one .any) fun v19 =>
  NN adj_12p fun a20 =>
  Req (0 ≤ i_13 ∧ i_13 < ((adj_12l : Nat) : Int)) <|
  Req (oneC v19 = true) <|
  Store1 (a20.add i_13.toNat) v19 <|
  again15 adj_12p adj_12l adj_12c (addI .i64 i_13 1) v14) (
  k (.tuple #[.slice adj_12p adj_12l adj_12c, .nilIface]))
theorem F15_L1_rule {k : Value → W} (I : Option Addr → Nat → Nat → Int → Value → W) (μ : Option Addr → Nat → Nat → Int → Value → World → Nat)
  (hr : ∀ (adj_12p : Option Addr) (adj_12l : Nat) (adj_12c : Nat) (i_13 : Int) (v14 : Value) (w : World), I adj_12p adj_12l adj_12c i_13 v14 w → F15_L1 k (fun adj_12p' adj_12l' adj_12c' i_13' v14' w' => I adj_12p' adj_12l' adj_12c' i_13' v14' w' ∧ μ adj_12p' adj_12l' adj_12c' i_13' v14' w' < μ adj_12p adj_12l adj_12c i_13 v14 w) adj_12p adj_12l adj_12c i_13 v14 w)
  {w : World} {adj_12p : Option Addr} {adj_12l : Nat} {adj_12c : Nat} {i_13 : Int} {v14 : Value} (h : I adj_12p adj_12l adj_12c i_13 v14 w) : Loop [.slice, (.int .i64), .any] (F15_L1 k) adj_12p adj_12l adj_12c i_13 v14 w :=
  Loop_intro (ts := [.slice, (.int .i64), .any]) (s := ((adj_12p, adj_12l, adj_12c), i_13, v14, ())) (fun s w => I s.1.1 s.1.2.1 s.1.2.2 s.2.1 s.2.2.1 w) (fun s w => μ s.1.1 s.1.2.1 s.1.2.2 s.2.1 s.2.2.1 w) h (fun s w h => hr s.1.1 s.1.2.1 s.1.2.2 s.2.1 s.2.2.1 w h)
def F15 (k : Value → W) (g_1 : Option Addr) (v_2 : Value) : W :=
 CallT Go.Proofs.Tryd.prog 20 [.pointer g_1, v_2] (.tup [(.one (.int .i64)), (.one .any)]) fun x3 v4 =>
 IfaceNil v4 fun b5 =>
 BIf (!b5) (
  Drw <|
  LoadT .any ⟨0, 0, none⟩ fun v6 =>
  k (.tuple #[.slice none 0 0, v6])) (
  RawT Go.Proofs.Tryd.prog (Instr.makeSlice 39 (.int .i64 x3) (.int .i64 x3)) (.s (.one .slice)) fun s7p s7l s7c =>
  NN g_1 fun a8 =>
  LoadT .map a8 fun m9 =>
  RawS Go.Proofs.Tryd.prog (Instr.lookup 48 (.map m9) v_2 false) (.s (.one .map)) fun m10 =>
  RawT Go.Proofs.Tryd.prog (Instr.range 53 (.map m10)) (.s (.one .any)) fun v11 =>
  Loop [.slice, (.int .i64), .any] (F15_L1 k) s7p s7l s7c 0 v11)
theorem F15_eq (k : Value → W) (g_1 : Option Addr) (v_2 : Value) : compF Go.Proofs.Tryd.prog Go.Proofs.Tryd.f15 [(7, [(8, .slice), (9, (.int .i64)), (28, .any)])] (Go.Proofs.Tryd.f15.body.getD .skip) [.pointer g_1, v_2] k = F15 k g_1 v_2 := by kernel_rfl
theorem F15_calls {g_1 : Option Addr} {v_2 : Value} {w : World} {R : Ending → World → Prop} (h : F15 (fun v w => R (.returned v) w) g_1 v_2 w) : Calls Go.Proofs.Tryd.prog 15 #[.pointer g_1, v_2] w R :=
  calls_of_compF noNum follows [(7, [(8, .slice), (9, (.int .i64)), (28, .any)])] (f := 15) (fn := Go.Proofs.Tryd.f15) (body := Go.Proofs.Tryd.f15.body.getD .skip) (args := [.pointer g_1, v_2]) rfl rfl (Nat.le_of_ble_eq_true rfl) ((congrFun (F15_eq _ g_1 v_2) w).mpr h)
theorem F15_call {g_1 : Option Addr} {v_2 : Value} {w : World} {g : Fn W (RTy.leaves (.tup [(.one .slice), (.one .any)]))} (h : F15 (fun v => Back (.tup [(.one .slice), (.one .any)]) g (.returned v)) g_1 v_2 w) : CallT Go.Proofs.Tryd.prog 15 [.pointer g_1, v_2] (.tup [(.one .slice), (.one .any)]) g w := F15_calls h

/-! ## impl.GRAdj -/
def F7_L1 (k : Value → W) (again12 : Option Addr → Nat → Nat → Value → Option Addr → Nat → Nat → Int → Int → W) (adj_7p : Option Addr) (adj_7l : Nat) (adj_7c : Nat) (e_8 : Value) (s9p : Option Addr) (s9l : Nat) (s9c : Nat) (x10 : Int) (x11 : Int) : W :=
 BIf (decide (x11 < x10)) (
  NN s9p fun a13 =>
  Req (0 ≤ x11 ∧ x11 < ((s9l : Nat) : Int)) <|
  LoadT .any (a13.add x11.toNat) fun v14 =>
  TAs v14 3 (.s (.one (.int .i64))) fun x15 =>
  RawT Go.Proofs.Tryd.prog (Instr.buildSlice 24 1 [(0, .int .i64 x15)].toArray) (.s (.one .slice)) fun s16p s16l s16c =>
  NextT Go.Proofs.Tryd.prog (builtin .append #[24, 24] 24 [false, false].toArray [.slice adj_7p adj_7l adj_7c, .slice s16p s16l s16c].toArray) (.s (.one .slice)) fun s17p s17l s17c =>
  again12 s17p s17l s17c e_8 s9p s9l s9c x10 (addI .i64 x11 1)) (
  CallT Go.Proofs.Tryd.prog 16 [e_8] (.s (.one (.int .i64))) fun x18 =>
  k (.tuple #[.slice adj_7p adj_7l adj_7c, .int .i64 x18]))
theorem F7_L1_rule {k : Value → W} (I : Option Addr → Nat → Nat → Value → Option Addr → Nat → Nat → Int → Int → W) (μ : Option Addr → Nat → Nat → Value → Option Addr → Nat → Nat → Int → Int → World → Nat)
  (hr : ∀ (adj_7p : Option Addr) (adj_7l : Nat) (adj_7c : Nat) (e_8 : Value) (s9p : Option Addr) (s9l : Nat) (s9c : Nat) (x10 : Int) (x11 : Int) (w : World), I adj_7p adj_7l adj_7c e_8 s9p s9l s9c x10 x11 w → F7_L1 k (fun adj_7p' adj_7l' adj_7c' e_8' s9p' s9l' s9c' x10' x11' w' => I adj_7p' adj_7l' adj_7c' e_8' s9p' s9l' s9c' x10' x11' w' ∧ μ adj_7p' adj_7l' adj_7c' e_8' s9p' s9l' s9c' x10' x11' w' < μ adj_7p adj_7l adj_7c e_8 s9p s9l s9c x10 x11 w) adj_7p adj_7l adj_7c e_8 s9p s9l s9c x10 x11 w)
  {w : World} {adj_7p : Option Addr} {adj_7l : Nat} {adj_7c : Nat} {e_8 : Value} {s9p : Option Addr} {s9l : Nat} {s9c : Nat} {x10 : Int} {x11 : Int} (h : I adj_7p adj_7l adj_7c e_8 s9p s9l s9c x10 x11 w) : Loop [.slice, .any, .slice, (.int .i64), (.int .i64)] (F7_L1 k) adj_7p adj_7l adj_7c e_8 s9p s9l s9c x10 x11 w :=
  Loop_intro (ts := [.slice, .any, .slice, (.int .i64), (.int .i64)]) (s := ((adj_7p, adj_7l, adj_7c), e_8, (s9p, s9l, s9c), x10, x11, ())) (fun s w => I s.1.1 s.1.2.1 s.1.2.2 s.2.1 s.2.2.1.1 s.2.2.1.2.1 s.2.2.1.2.2 s.2.2.2.1 s.2.2.2.2.1 w) (fun s w => μ s.1.1 s.1.2.1 s.1.2.2 s.2.1 s.2.2.1.1 s.2.2.1.2.1 s.2.2.1.2.2 s.2.2.2.1 s.2.2.2.2.1 w) h (fun s w h => hr s.1.1 s.1.2.1 s.1.2.2 s.2.1 s.2.2.1.1 s.2.2.1.2.1 s.2.2.1.2.2 s.2.2.2.1 s.2.2.2.2.1 w h)
def F7 (k : Value → W) (l_1p : Option Addr) (l_1l : Nat) (l_1c : Nat) (v_2 : Int) : W :=
 CallT Go.Proofs.Tryd.prog 12 [.slice l_1p l_1l l_1c] (.tup [(.one .ptr), (.one .slice)]) fun p3 s4p s4l s4c =>
 CallT Go.Proofs.Tryd.prog 15 [.pointer p3, .iface 3 (.int .i64 v_2)] (.tup [(.one .slice), (.one .any)]) fun s5p s5l s5c v6 =>
 Loop [.slice, .any, .slice, (.int .i64), (.int .i64)] (F7_L1 k) none 0 0 v6 s5p s5l s5c ((s5l : Nat) : Int) 0
theorem F7_eq (k : Value → W) (l_1p : Option Addr) (l_1l : Nat) (l_1c : Nat) (v_2 : Int) : compF Go.Proofs.Tryd.prog Go.Proofs.Tryd.f7 [(4, [(4, .slice), (9, .any), (24, .slice), (25, (.int .i64)), (26, (.int .i64))])] (Go.Proofs.Tryd.f7.body.getD .skip) [.slice l_1p l_1l l_1c, .int .i64 v_2] k = F7 k l_1p l_1l l_1c v_2 := by kernel_rfl
theorem F7_calls {l_1p : Option Addr} {l_1l : Nat} {l_1c : Nat} {v_2 : Int} {w : World} {R : Ending → World → Prop} (h : F7 (fun v w => R (.returned v) w) l_1p l_1l l_1c v_2 w) : Calls Go.Proofs.Tryd.prog 7 #[.slice l_1p l_1l l_1c, .int .i64 v_2] w R :=
  calls_of_compF noNum follows [(4, [(4, .slice), (9, .any), (24, .slice), (25, (.int .i64)), (26, (.int .i64))])] (f := 7) (fn := Go.Proofs.Tryd.f7) (body := Go.Proofs.Tryd.f7.body.getD .skip) (args := [.slice l_1p l_1l l_1c, .int .i64 v_2]) rfl rfl (Nat.le_of_ble_eq_true rfl) ((congrFun (F7_eq _ l_1p l_1l l_1c v_2) w).mpr h)
theorem F7_call {l_1p : Option Addr} {l_1l : Nat} {l_1c : Nat} {v_2 : Int} {w : World} {g : Fn W (RTy.leaves (.tup [(.one .slice), (.one (.int .i64))]))} (h : F7 (fun v => Back (.tup [(.one .slice), (.one (.int .i64))]) g (.returned v)) l_1p l_1l l_1c v_2 w) : CallT Go.Proofs.Tryd.prog 7 [.slice l_1p l_1l l_1c, .int .i64 v_2] (.tup [(.one .slice), (.one (.int .i64))]) g w := F7_calls h

/-! ## slices.Index[[]int,int] -/
def F17_L1 (k : Value → W) (again7 : Option Addr → Nat → Nat → Int → Int → Int → W) (s_3p : Option Addr) (s_3l : Nat) (s_3c : Nat) (v_4 : Int) (x5 : Int) (x6 : Int) : W :=
 BIf (decide (x6 < x5)) (
  NN s_3p fun a8 =>
  Req (0 ≤ x6 ∧ x6 < ((s_3l : Nat) : Int)) <|
  LoadT (.int .i64) (a8.add x6.toNat) fun x9 =>
  BIf (v_4 == x9) (
   k (.int .i64 x6)) (
   again7 s_3p s_3l s_3c v_4 x5 (addI .i64 x6 1))) (
  k (.int .i64 (-1)))
theorem F17_L1_rule {k : Value → W} (I : Option Addr → Nat → Nat → Int → Int → Int → W) (μ : Option Addr → Nat → Nat → Int → Int → Int → World → Nat)
  (hr : ∀ (s_3p : Option Addr) (s_3l : Nat) (s_3c : Nat) (v_4 : Int) (x5 : Int) (x6 : Int) (w : World), I s_3p s_3l s_3c v_4 x5 x6 w → F17_L1 k (fun s_3p' s_3l' s_3c' v_4' x5' x6' w' => I s_3p' s_3l' s_3c' v_4' x5' x6' w' ∧ μ s_3p' s_3l' s_3c' v_4' x5' x6' w' < μ s_3p s_3l s_3c v_4 x5 x6 w) s_3p s_3l s_3c v_4 x5 x6 w)
  {w : World} {s_3p : Option Addr} {s_3l : Nat} {s_3c : Nat} {v_4 : Int} {x5 : Int} {x6 : Int} (h : I s_3p s_3l s_3c v_4 x5 x6 w) : Loop [.slice, (.int .i64), (.int .i64), (.int .i64)] (F17_L1 k) s_3p s_3l s_3c v_4 x5 x6 w :=
  Loop_intro (ts := [.slice, (.int .i64), (.int .i64), (.int .i64)]) (s := ((s_3p, s_3l, s_3c), v_4, x5, x6, ())) (fun s w => I s.1.1 s.1.2.1 s.1.2.2 s.2.1 s.2.2.1 s.2.2.2.1 w) (fun s w => μ s.1.1 s.1.2.1 s.1.2.2 s.2.1 s.2.2.1 s.2.2.2.1 w) h (fun s w h => hr s.1.1 s.1.2.1 s.1.2.2 s.2.1 s.2.2.1 s.2.2.2.1 w h)
def F17 (k : Value → W) (s_1p : Option Addr) (s_1l : Nat) (s_1c : Nat) (v_2 : Int) : W :=
 Loop [.slice, (.int .i64), (.int .i64), (.int .i64)] (F17_L1 k) s_1p s_1l s_1c v_2 ((s_1l : Nat) : Int) 0
theorem F17_eq (k : Value → W) (s_1p : Option Addr) (s_1l : Nat) (s_1c : Nat) (v_2 : Int) : compF Go.Proofs.Tryd.prog Go.Proofs.Tryd.f17 [(2, [(0, .slice), (1, (.int .i64)), (7, (.int .i64)), (8, (.int .i64))])] (Go.Proofs.Tryd.f17.body.getD .skip) [.slice s_1p s_1l s_1c, .int .i64 v_2] k = F17 k s_1p s_1l s_1c v_2 := by kernel_rfl
theorem F17_calls {s_1p : Option Addr} {s_1l : Nat} {s_1c : Nat} {v_2 : Int} {w : World} {R : Ending → World → Prop} (h : F17 (fun v w => R (.returned v) w) s_1p s_1l s_1c v_2 w) : Calls Go.Proofs.Tryd.prog 17 #[.slice s_1p s_1l s_1c, .int .i64 v_2] w R :=
  calls_of_compF noNum follows [(2, [(0, .slice), (1, (.int .i64)), (7, (.int .i64)), (8, (.int .i64))])] (f := 17) (fn := Go.Proofs.Tryd.f17) (body := Go.Proofs.Tryd.f17.body.getD .skip) (args := [.slice s_1p s_1l s_1c, .int .i64 v_2]) rfl rfl (Nat.le_of_ble_eq_true rfl) ((congrFun (F17_eq _ s_1p s_1l s_1c v_2) w).mpr h)
theorem F17_call {s_1p : Option Addr} {s_1l : Nat} {s_1c : Nat} {v_2 : Int} {w : World} {g : Fn W (RTy.leaves (.s (.one (.int .i64))))} (h : F17 (fun v => Back (.s (.one (.int .i64))) g (.returned v)) s_1p s_1l s_1c v_2 w) : CallT Go.Proofs.Tryd.prog 17 [.slice s_1p s_1l s_1c, .int .i64 v_2] (.s (.one (.int .i64))) g w := F17_calls h

/-! ## slices.Contains[[]int,int] -/
def F8 (k : Value → W) (s_1p : Option Addr) (s_1l : Nat) (s_1c : Nat) (v_2 : Int) : W :=
 CallT Go.Proofs.Tryd.prog 17 [.slice s_1p s_1l s_1c, .int .i64 v_2] (.s (.one (.int .i64))) fun x3 =>
 k (.bool (decide (x3 ≥ 0)))
theorem F8_eq (k : Value → W) (s_1p : Option Addr) (s_1l : Nat) (s_1c : Nat) (v_2 : Int) : compF Go.Proofs.Tryd.prog Go.Proofs.Tryd.f8 [] (Go.Proofs.Tryd.f8.body.getD .skip) [.slice s_1p s_1l s_1c, .int .i64 v_2] k = F8 k s_1p s_1l s_1c v_2 := by kernel_rfl
theorem F8_calls {s_1p : Option Addr} {s_1l : Nat} {s_1c : Nat} {v_2 : Int} {w : World} {R : Ending → World → Prop} (h : F8 (fun v w => R (.returned v) w) s_1p s_1l s_1c v_2 w) : Calls Go.Proofs.Tryd.prog 8 #[.slice s_1p s_1l s_1c, .int .i64 v_2] w R :=
  calls_of_compF noNum follows [] (f := 8) (fn := Go.Proofs.Tryd.f8) (body := Go.Proofs.Tryd.f8.body.getD .skip) (args := [.slice s_1p s_1l s_1c, .int .i64 v_2]) rfl rfl (Nat.le_of_ble_eq_true rfl) ((congrFun (F8_eq _ s_1p s_1l s_1c v_2) w).mpr h)
theorem F8_call {s_1p : Option Addr} {s_1l : Nat} {s_1c : Nat} {v_2 : Int} {w : World} {g : Fn W (RTy.leaves (.s (.one .bool)))} (h : F8 (fun v => Back (.s (.one .bool)) g (.returned v)) s_1p s_1l s_1c v_2 w) : CallT Go.Proofs.Tryd.prog 8 [.slice s_1p s_1l s_1c, .int .i64 v_2] (.s (.one .bool)) g w := F8_calls h

/-! ## slices.Equal[[]int,int] -/
def F11_L1 (k : Value → W) (again7 : Option Addr → Nat → Nat → Option Addr → Nat → Nat → Int → Int → W) (s1_3p : Option Addr) (s1_3l : Nat) (s1_3c : Nat) (s2_4p : Option Addr) (s2_4l : Nat) (s2_4c : Nat) (x5 : Int) (x6 : Int) : W :=
 BIf (decide (x6 < x5)) (
  Drw <|
  NN s1_3p fun a8 =>
  Req (0 ≤ x6 ∧ x6 < ((s1_3l : Nat) : Int)) <|
  LoadT (.int .i64) (a8.add x6.toNat) fun x9 =>
  NN s2_4p fun a10 =>
  Req (0 ≤ x6 ∧ x6 < ((s2_4l : Nat) : Int)) <|
  LoadT (.int .i64) (a10.add x6.toNat) fun x11 =>
  BIf (x9 != x11) (
   k (.bool false)) (
   again7 s1_3p s1_3l s1_3c s2_4p s2_4l s2_4c x5 (addI .i64 x6 1))) (
  k (.bool true))
theorem F11_L1_rule {k : Value → W} (I : Option Addr → Nat → Nat → Option Addr → Nat → Nat → Int → Int → W) (μ : Option Addr → Nat → Nat → Option Addr → Nat → Nat → Int → Int → World → Nat)
  (hr : ∀ (s1_3p : Option Addr) (s1_3l : Nat) (s1_3c : Nat) (s2_4p : Option Addr) (s2_4l : Nat) (s2_4c : Nat) (x5 : Int) (x6 : Int) (w : World), I s1_3p s1_3l s1_3c s2_4p s2_4l s2_4c x5 x6 w → F11_L1 k (fun s1_3p' s1_3l' s1_3c' s2_4p' s2_4l' s2_4c' x5' x6' w' => I s1_3p' s1_3l' s1_3c' s2_4p' s2_4l' s2_4c' x5' x6' w' ∧ μ s1_3p' s1_3l' s1_3c' s2_4p' s2_4l' s2_4c' x5' x6' w' < μ s1_3p s1_3l s1_3c s2_4p s2_4l s2_4c x5 x6 w) s1_3p s1_3l s1_3c s2_4p s2_4l s2_4c x5 x6 w)
  {w : World} {s1_3p : Option Addr} {s1_3l : Nat} {s1_3c : Nat} {s2_4p : Option Addr} {s2_4l : Nat} {s2_4c : Nat} {x5 : Int} {x6 : Int} (h : I s1_3p s1_3l s1_3c s2_4p s2_4l s2_4c x5 x6 w) : Loop [.slice, .slice, (.int .i64), (.int .i64)] (F11_L1 k) s1_3p s1_3l s1_3c s2_4p s2_4l s2_4c x5 x6 w :=
  Loop_intro (ts := [.slice, .slice, (.int .i64), (.int .i64)]) (s := ((s1_3p, s1_3l, s1_3c), (s2_4p, s2_4l, s2_4c), x5, x6, ())) (fun s w => I s.1.1 s.1.2.1 s.1.2.2 s.2.1.1 s.2.1.2.1 s.2.1.2.2 s.2.2.1 s.2.2.2.1 w) (fun s w => μ s.1.1 s.1.2.1 s.1.2.2 s.2.1.1 s.2.1.2.1 s.2.1.2.2 s.2.2.1 s.2.2.2.1 w) h (fun s w h => hr s.1.1 s.1.2.1 s.1.2.2 s.2.1.1 s.2.1.2.1 s.2.1.2.2 s.2.2.1 s.2.2.2.1 w h)
def F11 (k : Value → W) (s1_1p : Option Addr) (s1_1l : Nat) (s1_1c : Nat) (s2_2p : Option Addr) (s2_2l : Nat) (s2_2c : Nat) : W :=
 BIf (((s1_1l : Nat) : Int) != ((s2_2l : Nat) : Int)) (
  k (.bool false)) (
  Loop [.slice, .slice, (.int .i64), (.int .i64)] (F11_L1 k) s1_1p s1_1l s1_1c s2_2p s2_2l s2_2c ((s1_1l : Nat) : Int) 0)
theorem F11_eq (k : Value → W) (s1_1p : Option Addr) (s1_1l : Nat) (s1_1c : Nat) (s2_2p : Option Addr) (s2_2l : Nat) (s2_2c : Nat) : compF Go.Proofs.Tryd.prog Go.Proofs.Tryd.f11 [(4, [(0, .slice), (1, .slice), (12, (.int .i64)), (13, (.int .i64))])] (Go.Proofs.Tryd.f11.body.getD .skip) [.slice s1_1p s1_1l s1_1c, .slice s2_2p s2_2l s2_2c] k = F11 k s1_1p s1_1l s1_1c s2_2p s2_2l s2_2c := by kernel_rfl
theorem F11_calls {s1_1p : Option Addr} {s1_1l : Nat} {s1_1c : Nat} {s2_2p : Option Addr} {s2_2l : Nat} {s2_2c : Nat} {w : World} {R : Ending → World → Prop} (h : F11 (fun v w => R (.returned v) w) s1_1p s1_1l s1_1c s2_2p s2_2l s2_2c w) : Calls Go.Proofs.Tryd.prog 11 #[.slice s1_1p s1_1l s1_1c, .slice s2_2p s2_2l s2_2c] w R :=
  calls_of_compF noNum follows [(4, [(0, .slice), (1, .slice), (12, (.int .i64)), (13, (.int .i64))])] (f := 11) (fn := Go.Proofs.Tryd.f11) (body := Go.Proofs.Tryd.f11.body.getD .skip) (args := [.slice s1_1p s1_1l s1_1c, .slice s2_2p s2_2l s2_2c]) rfl rfl (Nat.le_of_ble_eq_true rfl) ((congrFun (F11_eq _ s1_1p s1_1l s1_1c s2_2p s2_2l s2_2c) w).mpr h)
theorem F11_call {s1_1p : Option Addr} {s1_1l : Nat} {s1_1c : Nat} {s2_2p : Option Addr} {s2_2l : Nat} {s2_2c : Nat} {w : World} {g : Fn W (RTy.leaves (.s (.one .bool)))} (h : F11 (fun v => Back (.s (.one .bool)) g (.returned v)) s1_1p s1_1l s1_1c s2_2p s2_2l s2_2c w) : CallT Go.Proofs.Tryd.prog 11 [.slice s1_1p s1_1l s1_1c, .slice s2_2p s2_2l s2_2c] (.s (.one .bool)) g w := F11_calls h

/-! ## laws.dgAwake -/
def F9 (k : Value → W) : W :=
 RawT Go.Proofs.Tryd.prog (Instr.buildSlice 22 3 [(0, .agg #[.int .i64 1, .int .i64 2]), (1, .agg #[.int .i64 2, .int .i64 3]), (2, .agg #[.int .i64 3, .int .i64 3])].toArray) (.s (.one .slice)) fun s1p s1l s1c =>
 CallT Go.Proofs.Tryd.prog 6 [.slice s1p s1l s1c] (.tup [(.one .slice), (.one (.int .i64)), (.one (.int .i64))]) fun s2p s2l s2c x3 x4 =>
 RawT Go.Proofs.Tryd.prog (Instr.buildSlice 22 1 [(0, .agg #[.int .i64 1, .int .i64 2])].toArray) (.s (.one .slice)) fun s5p s5l s5c =>
 CallT Go.Proofs.Tryd.prog 7 [.slice s5p s5l s5c, .int .i64 2] (.tup [(.one .slice), (.one (.int .i64))]) fun s6p s6l s6c x7 =>
 BIf (x3 == 3) (
  BIf (x4 == 2) (
   RawT Go.Proofs.Tryd.prog (Instr.buildSlice 24 3 [(0, .int .i64 0), (1, .int .i64 0), (2, .int .i64 2)].toArray) (.s (.one .slice)) fun s8p s8l s8c =>
   CallT Go.Proofs.Tryd.prog 11 [.slice s2p s2l s2c, .slice s8p s8l s8c] (.s (.one .bool)) fun b9 =>
   BIf b9 (
    BIf (x7 == 0) (
     RawT Go.Proofs.Tryd.prog (Instr.buildSlice 24 1 [(0, .int .i64 1)].toArray) (.s (.one .slice)) fun s10p s10l s10c =>
     CallT Go.Proofs.Tryd.prog 11 [.slice s6p s6l s6c, .slice s10p s10l s10c] (.s (.one .bool)) fun b11 =>
     k (.bool b11)) (
     k (.bool false))) (
    k (.bool false))) (
   k (.bool false))) (
  k (.bool false))
theorem F9_eq (k : Value → W) : compF Go.Proofs.Tryd.prog Go.Proofs.Tryd.f9 [] (Go.Proofs.Tryd.f9.body.getD .skip) [] k = F9 k  := by kernel_rfl
theorem F9_calls {w : World} {R : Ending → World → Prop} (h : F9 (fun v w => R (.returned v) w)  w) : Calls Go.Proofs.Tryd.prog 9 #[] w R :=
  calls_of_compF noNum follows [] (f := 9) (fn := Go.Proofs.Tryd.f9) (body := Go.Proofs.Tryd.f9.body.getD .skip) (args := []) rfl rfl (Nat.le_of_ble_eq_true rfl) ((congrFun (F9_eq _ ) w).mpr h)
theorem F9_call {w : World} {g : Fn W (RTy.leaves (.s (.one .bool)))} (h : F9 (fun v => Back (.s (.one .bool)) g (.returned v))  w) : CallT Go.Proofs.Tryd.prog 9 [] (.s (.one .bool)) g w := F9_calls h

/-! ## laws.FnGREnds -/
def F3_L2 (k : Value → W) (again12 : Option Addr → Nat → Nat → Int → Int → Int → Int → Int → W) (again25 : Option Addr → Nat → Nat → Int → Int → Int → Int → Int → Option Addr → Nat → Nat → Int → Int → W) (l_16p : Option Addr) (l_16l : Nat) (l_16c : Nat) (many_17 : Int) (e_18 : Int) (sum_19 : Int) (there_20 : Int) (v_21 : Int) (s22p : Option Addr) (s22l : Nat) (s22c : Nat) (x23 : Int) (x24 : Int) : W :=
 BIf (decide (x24 < x23)) (
  NN s22p fun a26 =>
  Req (0 ≤ x24 ∧ x24 < ((s22l : Nat) : Int)) <|
  LoadT (.int .i64) (a26.add x24.toNat) fun x27 =>
  CallT Go.Proofs.Tryd.prog 7 [.slice l_16p l_16l l_16c, .int .i64 x27] (.tup [(.one .slice), (.one (.int .i64))]) fun s28p s28l s28c x29 =>
  BIf (x29 != 0) (
   k (.bool false)) (
   CallT Go.Proofs.Tryd.prog 8 [.slice s28p s28l s28c, .int .i64 v_21] (.s (.one .bool)) fun b30 =>
   BIf (!b30) (
    k (.bool false)) (
    BIf (x27 == v_21) (
     k (.bool false)) (
     again25 l_16p l_16l l_16c many_17 e_18 sum_19 there_20 v_21 s22p s22l s22c x23 (addI .i64 x24 1))))) (
  again12 l_16p l_16l l_16c many_17 e_18 sum_19 there_20 (addI .i64 v_21 1))
theorem F3_L2_rule {k : Value → W} {again12 : Option Addr → Nat → Nat → Int → Int → Int → Int → Int → W} (I : Option Addr → Nat → Nat → Int → Int → Int → Int → Int → Option Addr → Nat → Nat → Int → Int → W) (μ : Option Addr → Nat → Nat → Int → Int → Int → Int → Int → Option Addr → Nat → Nat → Int → Int → World → Nat)
  (hr : ∀ (l_16p : Option Addr) (l_16l : Nat) (l_16c : Nat) (many_17 : Int) (e_18 : Int) (sum_19 : Int) (there_20 : Int) (v_21 : Int) (s22p : Option Addr) (s22l : Nat) (s22c : Nat) (x23 : Int) (x24 : Int) (w : World), I l_16p l_16l l_16c many_17 e_18 sum_19 there_20 v_21 s22p s22l s22c x23 x24 w → F3_L2 k again12 (fun l_16p' l_16l' l_16c' many_17' e_18' sum_19' there_20' v_21' s22p' s22l' s22c' x23' x24' w' => I l_16p' l_16l' l_16c' many_17' e_18' sum_19' there_20' v_21' s22p' s22l' s22c' x23' x24' w' ∧ μ l_16p' l_16l' l_16c' many_17' e_18' sum_19' there_20' v_21' s22p' s22l' s22c' x23' x24' w' < μ l_16p l_16l l_16c many_17 e_18 sum_19 there_20 v_21 s22p s22l s22c x23 x24 w) l_16p l_16l l_16c many_17 e_18 sum_19 there_20 v_21 s22p s22l s22c x23 x24 w)
  {w : World} {l_16p : Option Addr} {l_16l : Nat} {l_16c : Nat} {many_17 : Int} {e_18 : Int} {sum_19 : Int} {there_20 : Int} {v_21 : Int} {s22p : Option Addr} {s22l : Nat} {s22c : Nat} {x23 : Int} {x24 : Int} (h : I l_16p l_16l l_16c many_17 e_18 sum_19 there_20 v_21 s22p s22l s22c x23 x24 w) : Loop [.slice, (.int .i64), (.int .i64), (.int .i64), (.int .i64), (.int .i64), .slice, (.int .i64), (.int .i64)] (F3_L2 k again12) l_16p l_16l l_16c many_17 e_18 sum_19 there_20 v_21 s22p s22l s22c x23 x24 w :=
  Loop_intro (ts := [.slice, (.int .i64), (.int .i64), (.int .i64), (.int .i64), (.int .i64), .slice, (.int .i64), (.int .i64)]) (s := ((l_16p, l_16l, l_16c), many_17, e_18, sum_19, there_20, v_21, (s22p, s22l, s22c), x23, x24, ())) (fun s w => I s.1.1 s.1.2.1 s.1.2.2 s.2.1 s.2.2.1 s.2.2.2.1 s.2.2.2.2.1 s.2.2.2.2.2.1 s.2.2.2.2.2.2.1.1 s.2.2.2.2.2.2.1.2.1 s.2.2.2.2.2.2.1.2.2 s.2.2.2.2.2.2.2.1 s.2.2.2.2.2.2.2.2.1 w) (fun s w => μ s.1.1 s.1.2.1 s.1.2.2 s.2.1 s.2.2.1 s.2.2.2.1 s.2.2.2.2.1 s.2.2.2.2.2.1 s.2.2.2.2.2.2.1.1 s.2.2.2.2.2.2.1.2.1 s.2.2.2.2.2.2.1.2.2 s.2.2.2.2.2.2.2.1 s.2.2.2.2.2.2.2.2.1 w) h (fun s w h => hr s.1.1 s.1.2.1 s.1.2.2 s.2.1 s.2.2.1 s.2.2.2.1 s.2.2.2.2.1 s.2.2.2.2.2.1 s.2.2.2.2.2.2.1.1 s.2.2.2.2.2.2.1.2.1 s.2.2.2.2.2.2.1.2.2 s.2.2.2.2.2.2.2.1 s.2.2.2.2.2.2.2.2.1 w h)
def F3_L1 (k : Value → W) (again12 : Option Addr → Nat → Nat → Int → Int → Int → Int → Int → W) (l_6p : Option Addr) (l_6l : Nat) (l_6c : Nat) (many_7 : Int) (e_8 : Int) (sum_9 : Int) (there_10 : Int) (v_11 : Int) : W :=
 BIf (decide (v_11 ≤ 12)) (
  CallT Go.Proofs.Tryd.prog 7 [.slice l_6p l_6l l_6c, .int .i64 v_11] (.tup [(.one .slice), (.one (.int .i64))]) fun s13p s13l s13c x14 =>
  BIf (x14 != 0) (
   again12 l_6p l_6l l_6c many_7 e_8 sum_9 there_10 (addI .i64 v_11 1)) (
   Bind (addI .i64 sum_9 ((s13l : Nat) : Int) : Int) fun sum_15 =>
   Loop [.slice, (.int .i64), (.int .i64), (.int .i64), (.int .i64), (.int .i64), .slice, (.int .i64), (.int .i64)] (F3_L2 k again12) l_6p l_6l l_6c many_7 e_8 sum_15 (addI .i64 there_10 1) v_11 s13p s13l s13c ((s13l : Nat) : Int) 0)) (
  CallT Go.Proofs.Tryd.prog 9 [] (.s (.one .bool)) fun b31 =>
  BIf b31 (
   BIf (sum_9 == (mulI .i64 2 e_8)) (
    k (.bool (there_10 == many_7))) (
    k (.bool false))) (
   k (.bool false)))
theorem F3_L1_rule {k : Value → W} (I : Option Addr → Nat → Nat → Int → Int → Int → Int → Int → W) (μ : Option Addr → Nat → Nat → Int → Int → Int → Int → Int → World → Nat)
  (hr : ∀ (l_6p : Option Addr) (l_6l : Nat) (l_6c : Nat) (many_7 : Int) (e_8 : Int) (sum_9 : Int) (there_10 : Int) (v_11 : Int) (w : World), I l_6p l_6l l_6c many_7 e_8 sum_9 there_10 v_11 w → F3_L1 k (fun l_6p' l_6l' l_6c' many_7' e_8' sum_9' there_10' v_11' w' => I l_6p' l_6l' l_6c' many_7' e_8' sum_9' there_10' v_11' w' ∧ μ l_6p' l_6l' l_6c' many_7' e_8' sum_9' there_10' v_11' w' < μ l_6p l_6l l_6c many_7 e_8 sum_9 there_10 v_11 w) l_6p l_6l l_6c many_7 e_8 sum_9 there_10 v_11 w)
  {w : World} {l_6p : Option Addr} {l_6l : Nat} {l_6c : Nat} {many_7 : Int} {e_8 : Int} {sum_9 : Int} {there_10 : Int} {v_11 : Int} (h : I l_6p l_6l l_6c many_7 e_8 sum_9 there_10 v_11 w) : Loop [.slice, (.int .i64), (.int .i64), (.int .i64), (.int .i64), (.int .i64)] (F3_L1 k) l_6p l_6l l_6c many_7 e_8 sum_9 there_10 v_11 w :=
  Loop_intro (ts := [.slice, (.int .i64), (.int .i64), (.int .i64), (.int .i64), (.int .i64)]) (s := ((l_6p, l_6l, l_6c), many_7, e_8, sum_9, there_10, v_11, ())) (fun s w => I s.1.1 s.1.2.1 s.1.2.2 s.2.1 s.2.2.1 s.2.2.2.1 s.2.2.2.2.1 s.2.2.2.2.2.1 w) (fun s w => μ s.1.1 s.1.2.1 s.1.2.2 s.2.1 s.2.2.1 s.2.2.2.1 s.2.2.2.2.1 s.2.2.2.2.2.1 w) h (fun s w h => hr s.1.1 s.1.2.1 s.1.2.2 s.2.1 s.2.2.1 s.2.2.2.1 s.2.2.2.2.1 s.2.2.2.2.2.1 w h)
def F3 (k : Value → W) (l_1p : Option Addr) (l_1l : Nat) (l_1c : Nat) : W :=
 BIf (decide (((l_1l : Nat) : Int) > 2147483647)) (
  k (.bool true)) (
  CallT Go.Proofs.Tryd.prog 5 [.slice l_1p l_1l l_1c] (.s (.one .bool)) fun b2 =>
  BIf (!b2) (
   k (.bool true)) (
   CallT Go.Proofs.Tryd.prog 6 [.slice l_1p l_1l l_1c] (.tup [(.one .slice), (.one (.int .i64)), (.one (.int .i64))]) fun s3p s3l s3c x4 x5 =>
   Loop [.slice, (.int .i64), (.int .i64), (.int .i64), (.int .i64), (.int .i64)] (F3_L1 k) l_1p l_1l l_1c x4 x5 0 0 0))
theorem F3_eq (k : Value → W) (l_1p : Option Addr) (l_1l : Nat) (l_1c : Nat) : compF Go.Proofs.Tryd.prog Go.Proofs.Tryd.f3 [(8, [(0, .slice), (4, (.int .i64)), (5, (.int .i64)), (6, (.int .i64)), (7, (.int .i64)), (8, (.int .i64))]), (15, [(0, .slice), (4, (.int .i64)), (5, (.int .i64)), (6, (.int .i64)), (7, (.int .i64)), (8, (.int .i64)), (45, .slice), (46, (.int .i64)), (47, (.int .i64))])] (Go.Proofs.Tryd.f3.body.getD .skip) [.slice l_1p l_1l l_1c] k = F3 k l_1p l_1l l_1c := by kernel_rfl
theorem F3_calls {l_1p : Option Addr} {l_1l : Nat} {l_1c : Nat} {w : World} {R : Ending → World → Prop} (h : F3 (fun v w => R (.returned v) w) l_1p l_1l l_1c w) : Calls Go.Proofs.Tryd.prog 3 #[.slice l_1p l_1l l_1c] w R :=
  calls_of_compF noNum follows [(8, [(0, .slice), (4, (.int .i64)), (5, (.int .i64)), (6, (.int .i64)), (7, (.int .i64)), (8, (.int .i64))]), (15, [(0, .slice), (4, (.int .i64)), (5, (.int .i64)), (6, (.int .i64)), (7, (.int .i64)), (8, (.int .i64)), (45, .slice), (46, (.int .i64)), (47, (.int .i64))])] (f := 3) (fn := Go.Proofs.Tryd.f3) (body := Go.Proofs.Tryd.f3.body.getD .skip) (args := [.slice l_1p l_1l l_1c]) rfl rfl (Nat.le_of_ble_eq_true rfl) ((congrFun (F3_eq _ l_1p l_1l l_1c) w).mpr h)
theorem F3_call {l_1p : Option Addr} {l_1l : Nat} {l_1c : Nat} {w : World} {g : Fn W (RTy.leaves (.s (.one .bool)))} (h : F3 (fun v => Back (.s (.one .bool)) g (.returned v)) l_1p l_1l l_1c w) : CallT Go.Proofs.Tryd.prog 3 [.slice l_1p l_1l l_1c] (.s (.one .bool)) g w := F3_calls h

/-! ## impl.GREdge] -/
def F10 (k : Value → W) (s_1p : Option Addr) (s_1l : Nat) (s_1c : Nat) : W :=
 BIf s_1p.isNone (
  k (.slice none 0 0)) (
  RawT Go.Proofs.Tryd.prog (Instr.buildSlice 22 0 [].toArray) (.s (.one .slice)) fun s2p s2l s2c =>
  NextT Go.Proofs.Tryd.prog (builtin .append #[22, 22] 22 [false, false].toArray [.slice s2p s2l s2c, .slice s_1p s_1l s_1c].toArray) (.s (.one .slice)) fun s3p s3l s3c =>
  k (.slice s3p s3l s3c))
theorem F10_eq (k : Value → W) (s_1p : Option Addr) (s_1l : Nat) (s_1c : Nat) : compF Go.Proofs.Tryd.prog Go.Proofs.Tryd.f10 [] (Go.Proofs.Tryd.f10.body.getD .skip) [.slice s_1p s_1l s_1c] k = F10 k s_1p s_1l s_1c := by kernel_rfl
theorem F10_calls {s_1p : Option Addr} {s_1l : Nat} {s_1c : Nat} {w : World} {R : Ending → World → Prop} (h : F10 (fun v w => R (.returned v) w) s_1p s_1l s_1c w) : Calls Go.Proofs.Tryd.prog 10 #[.slice s_1p s_1l s_1c] w R :=
  calls_of_compF noNum follows [] (f := 10) (fn := Go.Proofs.Tryd.f10) (body := Go.Proofs.Tryd.f10.body.getD .skip) (args := [.slice s_1p s_1l s_1c]) rfl rfl (Nat.le_of_ble_eq_true rfl) ((congrFun (F10_eq _ s_1p s_1l s_1c) w).mpr h)
theorem F10_call {s_1p : Option Addr} {s_1l : Nat} {s_1c : Nat} {w : World} {g : Fn W (RTy.leaves (.s (.one .slice)))} (h : F10 (fun v => Back (.s (.one .slice)) g (.returned v)) s_1p s_1l s_1c w) : CallT Go.Proofs.Tryd.prog 10 [.slice s_1p s_1l s_1c] (.s (.one .slice)) g w := F10_calls h

/-! ## laws.FnGRTwice -/
def F4_L1 (k : Value → W) (again9 : Option Addr → Nat → Nat → Option Addr → Nat → Nat → Option Addr → Nat → Nat → Int → Int → W) (l_4p : Option Addr) (l_4l : Nat) (l_4c : Nat) (twice_5p : Option Addr) (twice_5l : Nat) (twice_5c : Nat) (s6p : Option Addr) (s6l : Nat) (s6c : Nat) (x7 : Int) (x8 : Int) : W :=
 BIf (decide (x8 < x7)) (
  NN s6p fun a10 =>
  Req (0 ≤ x8 ∧ x8 < ((s6l : Nat) : Int)) <|
  LoadT (.int .i64) ((a10.add (x8.toNat * 2)).add 0) fun x11 =>
  LoadT (.int .i64) ((a10.add (x8.toNat * 2)).add 1) fun x12 =>
  New [.int .i64 0, .int .i64 0] 33 fun n13 =>
  Store1 ⟨n13, 0, none⟩ (.int .i64 x11) <|
  Store1 ⟨n13, 1, none⟩ (.int .i64 x12) <|
  LoadT (.int .i64) ⟨n13, 1, none⟩ fun x14 =>
  LoadT (.int .i64) ⟨n13, 0, none⟩ fun x15 =>
  RawT Go.Proofs.Tryd.prog (Instr.buildSlice 22 1 [(0, .agg #[.int .i64 x14, .int .i64 x15])].toArray) (.s (.one .slice)) fun s16p s16l s16c =>
  NextT Go.Proofs.Tryd.prog (builtin .append #[22, 22] 22 [false, false].toArray [.slice twice_5p twice_5l twice_5c, .slice s16p s16l s16c].toArray) (.s (.one .slice)) fun s17p s17l s17c =>
  again9 l_4p l_4l l_4c s17p s17l s17c s6p s6l s6c x7 (addI .i64 x8 1)) (
  CallT Go.Proofs.Tryd.prog 6 [.slice l_4p l_4l l_4c] (.tup [(.one .slice), (.one (.int .i64)), (.one (.int .i64))]) fun s18p s18l s18c x19 x20 =>
  CallT Go.Proofs.Tryd.prog 6 [.slice twice_5p twice_5l twice_5c] (.tup [(.one .slice), (.one (.int .i64)), (.one (.int .i64))]) fun s21p s21l s21c x22 x23 =>
  CallT Go.Proofs.Tryd.prog 9 [] (.s (.one .bool)) fun b24 =>
  BIf (!b24) (
   k (.bool false)) (
   BIf (x19 != x22) (
    k (.bool false)) (
    BIf (x20 != x23) (
     k (.bool false)) (
     BIf (((s21l : Nat) : Int) != ((twice_5l : Nat) : Int)) (
      k (.bool false)) (
      Req (0 ≤ ((l_4l : Nat) : Int) ∧ ((l_4l : Nat) : Int) ≤ ((s21c : Nat) : Int)) <|
      CallT Go.Proofs.Tryd.prog 11 [.slice s18p s18l s18c, .slice (sliceA s21p 0 s21c 1) (((((l_4l : Nat) : Int)).toNat) - 0) (s21c - 0)] (.s (.one .bool)) fun b25 =>
      BIf (!b25) (
       k (.bool false)) (
       Req (0 ≤ ((l_4l : Nat) : Int) ∧ ((l_4l : Nat) : Int) ≤ ((s21l : Nat) : Int)) <|
       CallT Go.Proofs.Tryd.prog 8 [.slice (sliceA s21p ((((l_4l : Nat) : Int)).toNat) s21c 1) (s21l - ((((l_4l : Nat) : Int)).toNat)) (s21c - ((((l_4l : Nat) : Int)).toNat)), .int .i64 0] (.s (.one .bool)) fun b26 =>
       k (.bool (!b26))))))))
theorem F4_L1_rule {k : Value → W} (I : Option Addr → Nat → Nat → Option Addr → Nat → Nat → Option Addr → Nat → Nat → Int → Int → W) (μ : Option Addr → Nat → Nat → Option Addr → Nat → Nat → Option Addr → Nat → Nat → Int → Int → World → Nat)
  (hr : ∀ (l_4p : Option Addr) (l_4l : Nat) (l_4c : Nat) (twice_5p : Option Addr) (twice_5l : Nat) (twice_5c : Nat) (s6p : Option Addr) (s6l : Nat) (s6c : Nat) (x7 : Int) (x8 : Int) (w : World), I l_4p l_4l l_4c twice_5p twice_5l twice_5c s6p s6l s6c x7 x8 w → F4_L1 k (fun l_4p' l_4l' l_4c' twice_5p' twice_5l' twice_5c' s6p' s6l' s6c' x7' x8' w' => I l_4p' l_4l' l_4c' twice_5p' twice_5l' twice_5c' s6p' s6l' s6c' x7' x8' w' ∧ μ l_4p' l_4l' l_4c' twice_5p' twice_5l' twice_5c' s6p' s6l' s6c' x7' x8' w' < μ l_4p l_4l l_4c twice_5p twice_5l twice_5c s6p s6l s6c x7 x8 w) l_4p l_4l l_4c twice_5p twice_5l twice_5c s6p s6l s6c x7 x8 w)
  {w : World} {l_4p : Option Addr} {l_4l : Nat} {l_4c : Nat} {twice_5p : Option Addr} {twice_5l : Nat} {twice_5c : Nat} {s6p : Option Addr} {s6l : Nat} {s6c : Nat} {x7 : Int} {x8 : Int} (h : I l_4p l_4l l_4c twice_5p twice_5l twice_5c s6p s6l s6c x7 x8 w) : Loop [.slice, .slice, .slice, (.int .i64), (.int .i64)] (F4_L1 k) l_4p l_4l l_4c twice_5p twice_5l twice_5c s6p s6l s6c x7 x8 w :=
  Loop_intro (ts := [.slice, .slice, .slice, (.int .i64), (.int .i64)]) (s := ((l_4p, l_4l, l_4c), (twice_5p, twice_5l, twice_5c), (s6p, s6l, s6c), x7, x8, ())) (fun s w => I s.1.1 s.1.2.1 s.1.2.2 s.2.1.1 s.2.1.2.1 s.2.1.2.2 s.2.2.1.1 s.2.2.1.2.1 s.2.2.1.2.2 s.2.2.2.1 s.2.2.2.2.1 w) (fun s w => μ s.1.1 s.1.2.1 s.1.2.2 s.2.1.1 s.2.1.2.1 s.2.1.2.2 s.2.2.1.1 s.2.2.1.2.1 s.2.2.1.2.2 s.2.2.2.1 s.2.2.2.2.1 w) h (fun s w h => hr s.1.1 s.1.2.1 s.1.2.2 s.2.1.1 s.2.1.2.1 s.2.1.2.2 s.2.2.1.1 s.2.2.1.2.1 s.2.2.1.2.2 s.2.2.2.1 s.2.2.2.2.1 w h)
def F4 (k : Value → W) (l_1p : Option Addr) (l_1l : Nat) (l_1c : Nat) : W :=
 BIf (decide (((l_1l : Nat) : Int) > 2147483647)) (
  k (.bool true)) (
  CallT Go.Proofs.Tryd.prog 5 [.slice l_1p l_1l l_1c] (.s (.one .bool)) fun b2 =>
  BIf (!b2) (
   k (.bool true)) (
   CallT Go.Proofs.Tryd.prog 10 [.slice l_1p l_1l l_1c] (.s (.one .slice)) fun s3p s3l s3c =>
   Loop [.slice, .slice, .slice, (.int .i64), (.int .i64)] (F4_L1 k) l_1p l_1l l_1c s3p s3l s3c l_1p l_1l l_1c ((l_1l : Nat) : Int) 0))
theorem F4_eq (k : Value → W) (l_1p : Option Addr) (l_1l : Nat) (l_1c : Nat) : compF Go.Proofs.Tryd.prog Go.Proofs.Tryd.f4 [(7, [(0, .slice), (3, .slice), (20, .slice), (21, (.int .i64)), (22, (.int .i64))])] (Go.Proofs.Tryd.f4.body.getD .skip) [.slice l_1p l_1l l_1c] k = F4 k l_1p l_1l l_1c := by kernel_rfl
theorem F4_calls {l_1p : Option Addr} {l_1l : Nat} {l_1c : Nat} {w : World} {R : Ending → World → Prop} (h : F4 (fun v w => R (.returned v) w) l_1p l_1l l_1c w) : Calls Go.Proofs.Tryd.prog 4 #[.slice l_1p l_1l l_1c] w R :=
  calls_of_compF noNum follows [(7, [(0, .slice), (3, .slice), (20, .slice), (21, (.int .i64)), (22, (.int .i64))])] (f := 4) (fn := Go.Proofs.Tryd.f4) (body := Go.Proofs.Tryd.f4.body.getD .skip) (args := [.slice l_1p l_1l l_1c]) rfl rfl (Nat.le_of_ble_eq_true rfl) ((congrFun (F4_eq _ l_1p l_1l l_1c) w).mpr h)
theorem F4_call {l_1p : Option Addr} {l_1l : Nat} {l_1c : Nat} {w : World} {g : Fn W (RTy.leaves (.s (.one .bool)))} (h : F4 (fun v => Back (.s (.one .bool)) g (.returned v)) l_1p l_1l l_1c w) : CallT Go.Proofs.Tryd.prog 4 [.slice l_1p l_1l l_1c] (.s (.one .bool)) g w := F4_calls h

end Go.Proofs.YtgmngfgpbjbgjaaDoor.E
