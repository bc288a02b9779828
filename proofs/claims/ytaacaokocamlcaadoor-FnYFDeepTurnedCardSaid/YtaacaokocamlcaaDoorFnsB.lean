/-
  Printed by this session's own program eng.py out of Lean's print of the loaded functions: what each function's body asks, in the engine's words; each is checked against the program by the kernel.
-/
import Derived.Test.YtaacaokocamlcaaDoorEng
import Derived.Test.YtaacaokocamlcaaDoorFnsA
namespace Go.Proofs.YtaacaokocamlcaaDoor.E
open Go
set_option linter.unusedVariables false
set_option maxRecDepth 100000
/-! ## xfast.XFastTrie).successor -/
def F49_J3 (k : Value → W) (n_42 : Option Addr) (b43 : Bool) : W :=
 BIf b43 (
  NN n_42 fun a44 =>
  Req (0 ≤ (0 : Int) ∧ (0 : Int) < (2 : Int)) <|
  LoadT .ptr ((a44.add 1).add ((0 : Int).toNat)) fun p45 =>
  NN p45 fun a46 =>
  Req (0 ≤ (1 : Int) ∧ (1 : Int) < (2 : Int)) <|
  LoadT .ptr ((a46.add 1).add ((1 : Int).toNat)) fun p47 =>
  k (.pointer p47)) (
  NN n_42 fun a48 =>
  Req (0 ≤ (1 : Int) ∧ (1 : Int) < (2 : Int)) <|
  LoadT .ptr ((a48.add 1).add ((1 : Int).toNat)) fun p49 =>
  k (.pointer p49))
def F49_J2 (k : Value → W) (n_35 : Option Addr) : W :=
 NN n_35 fun a36 =>
 Req (0 ≤ (1 : Int) ∧ (1 : Int) < (2 : Int)) <|
 LoadT .ptr ((a36.add 1).add ((1 : Int).toNat)) fun p37 =>
 CallT Go.Proofs.Tryd.prog 62 [.pointer p37] (.s (.one .bool)) fun b38 =>
 BIf b38 (
  NN n_35 fun a39 =>
  Req (0 ≤ (0 : Int) ∧ (0 : Int) < (2 : Int)) <|
  LoadT .ptr ((a39.add 1).add ((0 : Int).toNat)) fun p40 =>
  CallT Go.Proofs.Tryd.prog 52 [.pointer p40] (.s (.one .bool)) fun b41 =>
  F49_J3 k n_35 b41) (
  F49_J3 k n_35 false)
def F49_J1 (k : Value → W) (xft_30 : Option Addr) (n_31 : Option Addr) (b32 : Bool) : W :=
 BIf b32 (
  k (.pointer none)) (
  BIf n_31.isNone (
   NN xft_30 fun a33 =>
   LoadT .ptr (a33.add 1) fun p34 =>
   F49_J2 k p34) (
   F49_J2 k n_31))
def F49 (k : Value → W) (xft_1 : Option Addr) (key_2 : Int) : W :=
 NN xft_1 fun a3 =>
 LoadT .ptr (a3.add 1) fun p4 =>
 BIf p4.isNone (
  k (.pointer none)) (
  NN xft_1 fun a5 =>
  LoadT .ptr (a5.add 5) fun p6 =>
  BIf p6.isNone (
   k (.pointer none)) (
   NN xft_1 fun a7 =>
   LoadT .ptr (a7.add 5) fun p8 =>
   NN p8 fun a9 =>
   LoadT .any a9 fun v10 =>
   NextT Go.Proofs.Tryd.prog (callMethod v10 "Key" [].toArray) (.s (.one (.int .u64))) fun x11 =>
   BIf (decide (key_2 ≤ x11)) (
    NN xft_1 fun a12 =>
    LoadT .ptr (a12.add 5) fun p13 =>
    k (.pointer p13)) (
    NN xft_1 fun a14 =>
    LoadT .ptr (a14.add 6) fun p15 =>
    NN p15 fun a16 =>
    LoadT .any a16 fun v17 =>
    NextT Go.Proofs.Tryd.prog (callMethod v17 "Key" [].toArray) (.s (.one (.int .u64))) fun x18 =>
    BIf (decide (key_2 > x18)) (
     k (.pointer none)) (
     Drw <|
     NN xft_1 fun a19 =>
     LoadT .slice a19 fun s20p s20l s20c =>
     NN xft_1 fun a21 =>
     LoadT (.int .u8) (a21.add 3) fun x22 =>
     NN s20p fun a23 =>
     Req (0 ≤ subI .u8 x22 1 ∧ subI .u8 x22 1 < ((s20l : Nat) : Int)) <|
     LoadT .map (a23.add ((subI .u8 x22 1).toNat)) fun m24 =>
     RawS Go.Proofs.Tryd.prog (Instr.lookup 88 (.map m24) (.int .u64 key_2) false) (.s (.one .ptr)) fun p25 =>
     Chk1 (a21.add 3) (.int .u8 x22) <|
     Chk1 a19 (.slice s20p s20l s20c) <|
     BIf (!p25.isNone) (
      k (.pointer p25)) (
      NN xft_1 fun a26 =>
      LoadT .slice a26 fun s27p s27l s27c =>
      CallT Go.Proofs.Tryd.prog 51 [.slice s27p s27l s27c, .int .u64 key_2] (.tup [(.one (.int .i64)), (.one .ptr)]) fun x28 p29 =>
      BIf p29.isNone (
       F49_J1 k xft_1 p29 (decide (x28 > 1))) (
       F49_J1 k xft_1 p29 false))))))
theorem F49_eq (k : Value → W) (xft_1 : Option Addr) (key_2 : Int) : compF Go.Proofs.Tryd.prog Go.Proofs.Tryd.f49 [] (Go.Proofs.Tryd.f49.body.getD .skip) [.pointer xft_1, .int .u64 key_2] k = F49 k xft_1 key_2 := by kernel_rfl
theorem F49_calls {xft_1 : Option Addr} {key_2 : Int} {w : World} {R : Ending → World → Prop} (h : F49 (fun v w => R (.returned v) w) xft_1 key_2 w) : Calls Go.Proofs.Tryd.prog 49 #[.pointer xft_1, .int .u64 key_2] w R :=
  calls_of_compF noNum follows [] (f := 49) (fn := Go.Proofs.Tryd.f49) (body := Go.Proofs.Tryd.f49.body.getD .skip) (args := [.pointer xft_1, .int .u64 key_2]) rfl rfl (Nat.le_of_ble_eq_true rfl) ((congrFun (F49_eq _ xft_1 key_2) w).mpr h)
theorem F49_call {xft_1 : Option Addr} {key_2 : Int} {w : World} {g : Fn W (RTy.leaves (.s (.one .ptr)))} (h : F49 (fun v => Back (.s (.one .ptr)) g (.returned v)) xft_1 key_2 w) : CallT Go.Proofs.Tryd.prog 49 [.pointer xft_1, .int .u64 key_2] (.s (.one .ptr)) g w := F49_calls h

/-! ## xfast.XFastTrie).predecessor -/
def F50_J3 (k : Value → W) (n_42 : Option Addr) (b43 : Bool) : W :=
 BIf b43 (
  NN n_42 fun a44 =>
  Req (0 ≤ (1 : Int) ∧ (1 : Int) < (2 : Int)) <|
  LoadT .ptr ((a44.add 1).add ((1 : Int).toNat)) fun p45 =>
  NN p45 fun a46 =>
  Req (0 ≤ (0 : Int) ∧ (0 : Int) < (2 : Int)) <|
  LoadT .ptr ((a46.add 1).add ((0 : Int).toNat)) fun p47 =>
  k (.pointer p47)) (
  NN n_42 fun a48 =>
  Req (0 ≤ (0 : Int) ∧ (0 : Int) < (2 : Int)) <|
  LoadT .ptr ((a48.add 1).add ((0 : Int).toNat)) fun p49 =>
  k (.pointer p49))
def F50_J2 (k : Value → W) (n_35 : Option Addr) : W :=
 NN n_35 fun a36 =>
 Req (0 ≤ (0 : Int) ∧ (0 : Int) < (2 : Int)) <|
 LoadT .ptr ((a36.add 1).add ((0 : Int).toNat)) fun p37 =>
 CallT Go.Proofs.Tryd.prog 62 [.pointer p37] (.s (.one .bool)) fun b38 =>
 BIf b38 (
  NN n_35 fun a39 =>
  Req (0 ≤ (1 : Int) ∧ (1 : Int) < (2 : Int)) <|
  LoadT .ptr ((a39.add 1).add ((1 : Int).toNat)) fun p40 =>
  CallT Go.Proofs.Tryd.prog 52 [.pointer p40] (.s (.one .bool)) fun b41 =>
  F50_J3 k n_35 b41) (
  F50_J3 k n_35 false)
def F50_J1 (k : Value → W) (xft_30 : Option Addr) (n_31 : Option Addr) (b32 : Bool) : W :=
 BIf b32 (
  k (.pointer none)) (
  BIf n_31.isNone (
   NN xft_30 fun a33 =>
   LoadT .ptr (a33.add 1) fun p34 =>
   F50_J2 k p34) (
   F50_J2 k n_31))
def F50 (k : Value → W) (xft_1 : Option Addr) (key_2 : Int) : W :=
 NN xft_1 fun a3 =>
 LoadT .ptr (a3.add 1) fun p4 =>
 BIf p4.isNone (
  k (.pointer none)) (
  NN xft_1 fun a5 =>
  LoadT .ptr (a5.add 6) fun p6 =>
  BIf p6.isNone (
   k (.pointer none)) (
   NN xft_1 fun a7 =>
   LoadT .ptr (a7.add 6) fun p8 =>
   NN p8 fun a9 =>
   LoadT .any a9 fun v10 =>
   NextT Go.Proofs.Tryd.prog (callMethod v10 "Key" [].toArray) (.s (.one (.int .u64))) fun x11 =>
   BIf (decide (key_2 ≥ x11)) (
    NN xft_1 fun a12 =>
    LoadT .ptr (a12.add 6) fun p13 =>
    k (.pointer p13)) (
    NN xft_1 fun a14 =>
    LoadT .ptr (a14.add 5) fun p15 =>
    NN p15 fun a16 =>
    LoadT .any a16 fun v17 =>
    NextT Go.Proofs.Tryd.prog (callMethod v17 "Key" [].toArray) (.s (.one (.int .u64))) fun x18 =>
    BIf (decide (key_2 < x18)) (
     k (.pointer none)) (
     Drw <|
     NN xft_1 fun a19 =>
     LoadT .slice a19 fun s20p s20l s20c =>
     NN xft_1 fun a21 =>
     LoadT (.int .u8) (a21.add 3) fun x22 =>
     NN s20p fun a23 =>
     Req (0 ≤ subI .u8 x22 1 ∧ subI .u8 x22 1 < ((s20l : Nat) : Int)) <|
     LoadT .map (a23.add ((subI .u8 x22 1).toNat)) fun m24 =>
     RawS Go.Proofs.Tryd.prog (Instr.lookup 88 (.map m24) (.int .u64 key_2) false) (.s (.one .ptr)) fun p25 =>
     Chk1 (a21.add 3) (.int .u8 x22) <|
     Chk1 a19 (.slice s20p s20l s20c) <|
     BIf (!p25.isNone) (
      k (.pointer p25)) (
      NN xft_1 fun a26 =>
      LoadT .slice a26 fun s27p s27l s27c =>
      CallT Go.Proofs.Tryd.prog 51 [.slice s27p s27l s27c, .int .u64 key_2] (.tup [(.one (.int .i64)), (.one .ptr)]) fun x28 p29 =>
      BIf p29.isNone (
       F50_J1 k xft_1 p29 (decide (x28 > 1))) (
       F50_J1 k xft_1 p29 false))))))
theorem F50_eq (k : Value → W) (xft_1 : Option Addr) (key_2 : Int) : compF Go.Proofs.Tryd.prog Go.Proofs.Tryd.f50 [] (Go.Proofs.Tryd.f50.body.getD .skip) [.pointer xft_1, .int .u64 key_2] k = F50 k xft_1 key_2 := by kernel_rfl
theorem F50_calls {xft_1 : Option Addr} {key_2 : Int} {w : World} {R : Ending → World → Prop} (h : F50 (fun v w => R (.returned v) w) xft_1 key_2 w) : Calls Go.Proofs.Tryd.prog 50 #[.pointer xft_1, .int .u64 key_2] w R :=
  calls_of_compF noNum follows [] (f := 50) (fn := Go.Proofs.Tryd.f50) (body := Go.Proofs.Tryd.f50.body.getD .skip) (args := [.pointer xft_1, .int .u64 key_2]) rfl rfl (Nat.le_of_ble_eq_true rfl) ((congrFun (F50_eq _ xft_1 key_2) w).mpr h)
theorem F50_call {xft_1 : Option Addr} {key_2 : Int} {w : World} {g : Fn W (RTy.leaves (.s (.one .ptr)))} (h : F50 (fun v => Back (.s (.one .ptr)) g (.returned v)) xft_1 key_2 w) : CallT Go.Proofs.Tryd.prog 50 [.pointer xft_1, .int .u64 key_2] (.s (.one .ptr)) g w := F50_calls h

/-! ## xfast.XFastTrie).walkUpSuccessor -/
def F53_J2 (k : Value → W) (again11 : Option Addr → Option Addr → Option Addr → Option Addr → W) (root_25 : Option Addr) (node_26 : Option Addr) (successor_27 : Option Addr) (n_28 : Option Addr) : W :=
 NN n_28 fun a29 =>
 LoadT .ptr (a29.add 3) fun p30 =>
 again11 root_25 node_26 successor_27 p30
def F53_J1 (k : Value → W) (again11 : Option Addr → Option Addr → Option Addr → Option Addr → W) (root_19 : Option Addr) (node_20 : Option Addr) (successor_21 : Option Addr) (n_22 : Option Addr) (b23 : Bool) : W :=
 BIf b23 (
  NN n_22 fun a24 =>
  Req (0 ≤ (0 : Int) ∧ (0 : Int) < (2 : Int)) <|
  Store1 ((a24.add 1).add ((0 : Int).toNat)) (.pointer node_20) <|
  F53_J2 k again11 root_19 node_20 successor_21 n_22) (
  F53_J2 k again11 root_19 node_20 successor_21 n_22)
def F53_L1 (k : Value → W) (again11 : Option Addr → Option Addr → Option Addr → Option Addr → W) (root_7 : Option Addr) (node_8 : Option Addr) (successor_9 : Option Addr) (n_10 : Option Addr) : W :=
 BIf (!n_10.isNone) (
  RawS Go.Proofs.Tryd.prog (binS .neq 80 (.tmp 16) (.tmp 17) (.pointer n_10) (.pointer root_7)) (.s (.one .bool)) fun b12 =>
  BIf b12 (
   NN n_10 fun a13 =>
   Req (0 ≤ (0 : Int) ∧ (0 : Int) < (2 : Int)) <|
   LoadT .ptr ((a13.add 1).add ((0 : Int).toNat)) fun p14 =>
   CallT Go.Proofs.Tryd.prog 62 [.pointer p14] (.s (.one .bool)) fun b15 =>
   BIf (!b15) (
    NN n_10 fun a16 =>
    Req (0 ≤ (0 : Int) ∧ (0 : Int) < (2 : Int)) <|
    LoadT .ptr ((a16.add 1).add ((0 : Int).toNat)) fun p17 =>
    RawS Go.Proofs.Tryd.prog (binS .neq 80 (.tmp 32) (.tmp 33) (.pointer p17) (.pointer successor_9)) (.s (.one .bool)) fun b18 =>
    F53_J1 k again11 root_7 node_8 successor_9 n_10 b18) (
    F53_J1 k again11 root_7 node_8 successor_9 n_10 false)) (
   k (.tuple #[]))) (
  k (.tuple #[]))
theorem F53_L1_rule {k : Value → W} (I : Option Addr → Option Addr → Option Addr → Option Addr → W) (μ : Option Addr → Option Addr → Option Addr → Option Addr → World → Nat)
  (hr : ∀ (root_7 : Option Addr) (node_8 : Option Addr) (successor_9 : Option Addr) (n_10 : Option Addr) (w : World), I root_7 node_8 successor_9 n_10 w → F53_L1 k (fun root_7' node_8' successor_9' n_10' w' => I root_7' node_8' successor_9' n_10' w' ∧ μ root_7' node_8' successor_9' n_10' w' < μ root_7 node_8 successor_9 n_10 w) root_7 node_8 successor_9 n_10 w)
  {w : World} {root_7 : Option Addr} {node_8 : Option Addr} {successor_9 : Option Addr} {n_10 : Option Addr} (h : I root_7 node_8 successor_9 n_10 w) : Loop [.ptr, .ptr, .ptr, .ptr] (F53_L1 k) root_7 node_8 successor_9 n_10 w :=
  Loop_intro (ts := [.ptr, .ptr, .ptr, .ptr]) (s := (root_7, node_8, successor_9, n_10, ())) (fun s w => I s.1 s.2.1 s.2.2.1 s.2.2.2.1 w) (fun s w => μ s.1 s.2.1 s.2.2.1 s.2.2.2.1 w) h (fun s w h => hr s.1 s.2.1 s.2.2.1 s.2.2.2.1 w h)
def F53 (k : Value → W) (xft_1 : Option Addr) (root_2 : Option Addr) (node_3 : Option Addr) (successor_4 : Option Addr) : W :=
 NN successor_4 fun a5 =>
 LoadT .ptr (a5.add 3) fun p6 =>
 Loop [.ptr, .ptr, .ptr, .ptr] (F53_L1 k) root_2 node_3 successor_4 p6
theorem F53_eq (k : Value → W) (xft_1 : Option Addr) (root_2 : Option Addr) (node_3 : Option Addr) (successor_4 : Option Addr) : compF Go.Proofs.Tryd.prog Go.Proofs.Tryd.f53 [(1, [(1, .ptr), (2, .ptr), (3, .ptr), (8, .ptr)])] (Go.Proofs.Tryd.f53.body.getD .skip) [.pointer xft_1, .pointer root_2, .pointer node_3, .pointer successor_4] k = F53 k xft_1 root_2 node_3 successor_4 := by kernel_rfl
theorem F53_calls {xft_1 : Option Addr} {root_2 : Option Addr} {node_3 : Option Addr} {successor_4 : Option Addr} {w : World} {R : Ending → World → Prop} (h : F53 (fun v w => R (.returned v) w) xft_1 root_2 node_3 successor_4 w) : Calls Go.Proofs.Tryd.prog 53 #[.pointer xft_1, .pointer root_2, .pointer node_3, .pointer successor_4] w R :=
  calls_of_compF noNum follows [(1, [(1, .ptr), (2, .ptr), (3, .ptr), (8, .ptr)])] (f := 53) (fn := Go.Proofs.Tryd.f53) (body := Go.Proofs.Tryd.f53.body.getD .skip) (args := [.pointer xft_1, .pointer root_2, .pointer node_3, .pointer successor_4]) rfl rfl (Nat.le_of_ble_eq_true rfl) ((congrFun (F53_eq _ xft_1 root_2 node_3 successor_4) w).mpr h)
theorem F53_call {xft_1 : Option Addr} {root_2 : Option Addr} {node_3 : Option Addr} {successor_4 : Option Addr} {w : World} {g : Fn W (RTy.leaves (.tup []))} (h : F53 (fun v => Back (.tup []) g (.returned v)) xft_1 root_2 node_3 successor_4 w) : CallT Go.Proofs.Tryd.prog 53 [.pointer xft_1, .pointer root_2, .pointer node_3, .pointer successor_4] (.tup []) g w := F53_calls h

/-! ## xfast.XFastTrie).walkUpPredecessor -/
def F54_J2 (k : Value → W) (again11 : Option Addr → Option Addr → Option Addr → Option Addr → W) (root_25 : Option Addr) (node_26 : Option Addr) (predecessor_27 : Option Addr) (n_28 : Option Addr) : W :=
 NN n_28 fun a29 =>
 LoadT .ptr (a29.add 3) fun p30 =>
 again11 root_25 node_26 predecessor_27 p30
def F54_J1 (k : Value → W) (again11 : Option Addr → Option Addr → Option Addr → Option Addr → W) (root_19 : Option Addr) (node_20 : Option Addr) (predecessor_21 : Option Addr) (n_22 : Option Addr) (b23 : Bool) : W :=
 BIf b23 (
  NN n_22 fun a24 =>
  Req (0 ≤ (1 : Int) ∧ (1 : Int) < (2 : Int)) <|
  Store1 ((a24.add 1).add ((1 : Int).toNat)) (.pointer node_20) <|
  F54_J2 k again11 root_19 node_20 predecessor_21 n_22) (
  F54_J2 k again11 root_19 node_20 predecessor_21 n_22)
def F54_L1 (k : Value → W) (again11 : Option Addr → Option Addr → Option Addr → Option Addr → W) (root_7 : Option Addr) (node_8 : Option Addr) (predecessor_9 : Option Addr) (n_10 : Option Addr) : W :=
 BIf (!n_10.isNone) (
  RawS Go.Proofs.Tryd.prog (binS .neq 80 (.tmp 16) (.tmp 17) (.pointer n_10) (.pointer root_7)) (.s (.one .bool)) fun b12 =>
  BIf b12 (
   NN n_10 fun a13 =>
   Req (0 ≤ (1 : Int) ∧ (1 : Int) < (2 : Int)) <|
   LoadT .ptr ((a13.add 1).add ((1 : Int).toNat)) fun p14 =>
   CallT Go.Proofs.Tryd.prog 62 [.pointer p14] (.s (.one .bool)) fun b15 =>
   BIf (!b15) (
    NN n_10 fun a16 =>
    Req (0 ≤ (1 : Int) ∧ (1 : Int) < (2 : Int)) <|
    LoadT .ptr ((a16.add 1).add ((1 : Int).toNat)) fun p17 =>
    RawS Go.Proofs.Tryd.prog (binS .neq 80 (.tmp 32) (.tmp 33) (.pointer p17) (.pointer predecessor_9)) (.s (.one .bool)) fun b18 =>
    F54_J1 k again11 root_7 node_8 predecessor_9 n_10 b18) (
    F54_J1 k again11 root_7 node_8 predecessor_9 n_10 false)) (
   k (.tuple #[]))) (
  k (.tuple #[]))
theorem F54_L1_rule {k : Value → W} (I : Option Addr → Option Addr → Option Addr → Option Addr → W) (μ : Option Addr → Option Addr → Option Addr → Option Addr → World → Nat)
  (hr : ∀ (root_7 : Option Addr) (node_8 : Option Addr) (predecessor_9 : Option Addr) (n_10 : Option Addr) (w : World), I root_7 node_8 predecessor_9 n_10 w → F54_L1 k (fun root_7' node_8' predecessor_9' n_10' w' => I root_7' node_8' predecessor_9' n_10' w' ∧ μ root_7' node_8' predecessor_9' n_10' w' < μ root_7 node_8 predecessor_9 n_10 w) root_7 node_8 predecessor_9 n_10 w)
  {w : World} {root_7 : Option Addr} {node_8 : Option Addr} {predecessor_9 : Option Addr} {n_10 : Option Addr} (h : I root_7 node_8 predecessor_9 n_10 w) : Loop [.ptr, .ptr, .ptr, .ptr] (F54_L1 k) root_7 node_8 predecessor_9 n_10 w :=
  Loop_intro (ts := [.ptr, .ptr, .ptr, .ptr]) (s := (root_7, node_8, predecessor_9, n_10, ())) (fun s w => I s.1 s.2.1 s.2.2.1 s.2.2.2.1 w) (fun s w => μ s.1 s.2.1 s.2.2.1 s.2.2.2.1 w) h (fun s w h => hr s.1 s.2.1 s.2.2.1 s.2.2.2.1 w h)
def F54 (k : Value → W) (xft_1 : Option Addr) (root_2 : Option Addr) (node_3 : Option Addr) (predecessor_4 : Option Addr) : W :=
 NN predecessor_4 fun a5 =>
 LoadT .ptr (a5.add 3) fun p6 =>
 Loop [.ptr, .ptr, .ptr, .ptr] (F54_L1 k) root_2 node_3 predecessor_4 p6
theorem F54_eq (k : Value → W) (xft_1 : Option Addr) (root_2 : Option Addr) (node_3 : Option Addr) (predecessor_4 : Option Addr) : compF Go.Proofs.Tryd.prog Go.Proofs.Tryd.f54 [(1, [(1, .ptr), (2, .ptr), (3, .ptr), (8, .ptr)])] (Go.Proofs.Tryd.f54.body.getD .skip) [.pointer xft_1, .pointer root_2, .pointer node_3, .pointer predecessor_4] k = F54 k xft_1 root_2 node_3 predecessor_4 := by kernel_rfl
theorem F54_calls {xft_1 : Option Addr} {root_2 : Option Addr} {node_3 : Option Addr} {predecessor_4 : Option Addr} {w : World} {R : Ending → World → Prop} (h : F54 (fun v w => R (.returned v) w) xft_1 root_2 node_3 predecessor_4 w) : Calls Go.Proofs.Tryd.prog 54 #[.pointer xft_1, .pointer root_2, .pointer node_3, .pointer predecessor_4] w R :=
  calls_of_compF noNum follows [(1, [(1, .ptr), (2, .ptr), (3, .ptr), (8, .ptr)])] (f := 54) (fn := Go.Proofs.Tryd.f54) (body := Go.Proofs.Tryd.f54.body.getD .skip) (args := [.pointer xft_1, .pointer root_2, .pointer node_3, .pointer predecessor_4]) rfl rfl (Nat.le_of_ble_eq_true rfl) ((congrFun (F54_eq _ xft_1 root_2 node_3 predecessor_4) w).mpr h)
theorem F54_call {xft_1 : Option Addr} {root_2 : Option Addr} {node_3 : Option Addr} {predecessor_4 : Option Addr} {w : World} {g : Fn W (RTy.leaves (.tup []))} (h : F54 (fun v => Back (.tup []) g (.returned v)) xft_1 root_2 node_3 predecessor_4 w) : CallT Go.Proofs.Tryd.prog 54 [.pointer xft_1, .pointer root_2, .pointer node_3, .pointer predecessor_4] (.tup []) g w := F54_calls h

/-! ## xfast.XFastTrie).walkUpNode -/
def F55_J4 (k : Value → W) (again13 : Option Addr → Option Addr → Option Addr → Option Addr → Option Addr → W) (root_52 : Option Addr) (node_53 : Option Addr) (predecessor_54 : Option Addr) (successor_55 : Option Addr) (n_56 : Option Addr) : W :=
 NN n_56 fun a57 =>
 LoadT .ptr (a57.add 3) fun p58 =>
 again13 root_52 node_53 predecessor_54 successor_55 p58
def F55_J3 (k : Value → W) (again13 : Option Addr → Option Addr → Option Addr → Option Addr → Option Addr → W) (root_45 : Option Addr) (node_46 : Option Addr) (predecessor_47 : Option Addr) (successor_48 : Option Addr) (n_49 : Option Addr) (b50 : Bool) : W :=
 BIf b50 (
  NN n_49 fun a51 =>
  Req (0 ≤ (0 : Int) ∧ (0 : Int) < (2 : Int)) <|
  Store1 ((a51.add 1).add ((0 : Int).toNat)) (.pointer predecessor_47) <|
  F55_J4 k again13 root_45 node_46 predecessor_47 successor_48 n_49) (
  F55_J4 k again13 root_45 node_46 predecessor_47 successor_48 n_49)
def F55_J2 (k : Value → W) (again13 : Option Addr → Option Addr → Option Addr → Option Addr → Option Addr → W) (root_31 : Option Addr) (node_32 : Option Addr) (predecessor_33 : Option Addr) (successor_34 : Option Addr) (n_35 : Option Addr) : W :=
 NN n_35 fun a36 =>
 Req (0 ≤ (0 : Int) ∧ (0 : Int) < (2 : Int)) <|
 LoadT .ptr ((a36.add 1).add ((0 : Int).toNat)) fun p37 =>
 CallT Go.Proofs.Tryd.prog 62 [.pointer p37] (.s (.one .bool)) fun b38 =>
 BIf (!b38) (
  NN n_35 fun a39 =>
  Req (0 ≤ (0 : Int) ∧ (0 : Int) < (2 : Int)) <|
  LoadT .ptr ((a39.add 1).add ((0 : Int).toNat)) fun p40 =>
  RawS Go.Proofs.Tryd.prog (binS .neq 80 (.tmp 64) (.tmp 65) (.pointer p40) (.pointer predecessor_33)) (.s (.one .bool)) fun b41 =>
  BIf b41 (
   NN n_35 fun a42 =>
   Req (0 ≤ (0 : Int) ∧ (0 : Int) < (2 : Int)) <|
   LoadT .ptr ((a42.add 1).add ((0 : Int).toNat)) fun p43 =>
   RawS Go.Proofs.Tryd.prog (binS .neq 80 (.tmp 73) (.tmp 74) (.pointer p43) (.pointer node_32)) (.s (.one .bool)) fun b44 =>
   F55_J3 k again13 root_31 node_32 predecessor_33 successor_34 n_35 b44) (
   F55_J3 k again13 root_31 node_32 predecessor_33 successor_34 n_35 false)) (
  F55_J3 k again13 root_31 node_32 predecessor_33 successor_34 n_35 false)
def F55_J1 (k : Value → W) (again13 : Option Addr → Option Addr → Option Addr → Option Addr → Option Addr → W) (root_24 : Option Addr) (node_25 : Option Addr) (predecessor_26 : Option Addr) (successor_27 : Option Addr) (n_28 : Option Addr) (b29 : Bool) : W :=
 BIf b29 (
  NN n_28 fun a30 =>
  Req (0 ≤ (1 : Int) ∧ (1 : Int) < (2 : Int)) <|
  Store1 ((a30.add 1).add ((1 : Int).toNat)) (.pointer successor_27) <|
  F55_J2 k again13 root_24 node_25 predecessor_26 successor_27 n_28) (
  F55_J2 k again13 root_24 node_25 predecessor_26 successor_27 n_28)
def F55_L1 (k : Value → W) (again13 : Option Addr → Option Addr → Option Addr → Option Addr → Option Addr → W) (root_8 : Option Addr) (node_9 : Option Addr) (predecessor_10 : Option Addr) (successor_11 : Option Addr) (n_12 : Option Addr) : W :=
 BIf (!n_12.isNone) (
  RawS Go.Proofs.Tryd.prog (binS .neq 80 (.tmp 18) (.tmp 19) (.pointer n_12) (.pointer root_8)) (.s (.one .bool)) fun b14 =>
  BIf b14 (
   NN n_12 fun a15 =>
   Req (0 ≤ (1 : Int) ∧ (1 : Int) < (2 : Int)) <|
   LoadT .ptr ((a15.add 1).add ((1 : Int).toNat)) fun p16 =>
   CallT Go.Proofs.Tryd.prog 62 [.pointer p16] (.s (.one .bool)) fun b17 =>
   BIf (!b17) (
    NN n_12 fun a18 =>
    Req (0 ≤ (1 : Int) ∧ (1 : Int) < (2 : Int)) <|
    LoadT .ptr ((a18.add 1).add ((1 : Int).toNat)) fun p19 =>
    RawS Go.Proofs.Tryd.prog (binS .neq 80 (.tmp 34) (.tmp 35) (.pointer p19) (.pointer successor_11)) (.s (.one .bool)) fun b20 =>
    BIf b20 (
     NN n_12 fun a21 =>
     Req (0 ≤ (1 : Int) ∧ (1 : Int) < (2 : Int)) <|
     LoadT .ptr ((a21.add 1).add ((1 : Int).toNat)) fun p22 =>
     RawS Go.Proofs.Tryd.prog (binS .neq 80 (.tmp 43) (.tmp 44) (.pointer p22) (.pointer node_9)) (.s (.one .bool)) fun b23 =>
     F55_J1 k again13 root_8 node_9 predecessor_10 successor_11 n_12 b23) (
     F55_J1 k again13 root_8 node_9 predecessor_10 successor_11 n_12 false)) (
    F55_J1 k again13 root_8 node_9 predecessor_10 successor_11 n_12 false)) (
   k (.tuple #[]))) (
  k (.tuple #[]))
theorem F55_L1_rule {k : Value → W} (I : Option Addr → Option Addr → Option Addr → Option Addr → Option Addr → W) (μ : Option Addr → Option Addr → Option Addr → Option Addr → Option Addr → World → Nat)
  (hr : ∀ (root_8 : Option Addr) (node_9 : Option Addr) (predecessor_10 : Option Addr) (successor_11 : Option Addr) (n_12 : Option Addr) (w : World), I root_8 node_9 predecessor_10 successor_11 n_12 w → F55_L1 k (fun root_8' node_9' predecessor_10' successor_11' n_12' w' => I root_8' node_9' predecessor_10' successor_11' n_12' w' ∧ μ root_8' node_9' predecessor_10' successor_11' n_12' w' < μ root_8 node_9 predecessor_10 successor_11 n_12 w) root_8 node_9 predecessor_10 successor_11 n_12 w)
  {w : World} {root_8 : Option Addr} {node_9 : Option Addr} {predecessor_10 : Option Addr} {successor_11 : Option Addr} {n_12 : Option Addr} (h : I root_8 node_9 predecessor_10 successor_11 n_12 w) : Loop [.ptr, .ptr, .ptr, .ptr, .ptr] (F55_L1 k) root_8 node_9 predecessor_10 successor_11 n_12 w :=
  Loop_intro (ts := [.ptr, .ptr, .ptr, .ptr, .ptr]) (s := (root_8, node_9, predecessor_10, successor_11, n_12, ())) (fun s w => I s.1 s.2.1 s.2.2.1 s.2.2.2.1 s.2.2.2.2.1 w) (fun s w => μ s.1 s.2.1 s.2.2.1 s.2.2.2.1 s.2.2.2.2.1 w) h (fun s w h => hr s.1 s.2.1 s.2.2.1 s.2.2.2.1 s.2.2.2.2.1 w h)
def F55 (k : Value → W) (xft_1 : Option Addr) (root_2 : Option Addr) (node_3 : Option Addr) (predecessor_4 : Option Addr) (successor_5 : Option Addr) : W :=
 NN node_3 fun a6 =>
 LoadT .ptr (a6.add 3) fun p7 =>
 Loop [.ptr, .ptr, .ptr, .ptr, .ptr] (F55_L1 k) root_2 node_3 predecessor_4 successor_5 p7
theorem F55_eq (k : Value → W) (xft_1 : Option Addr) (root_2 : Option Addr) (node_3 : Option Addr) (predecessor_4 : Option Addr) (successor_5 : Option Addr) : compF Go.Proofs.Tryd.prog Go.Proofs.Tryd.f55 [(1, [(1, .ptr), (2, .ptr), (3, .ptr), (4, .ptr), (10, .ptr)])] (Go.Proofs.Tryd.f55.body.getD .skip) [.pointer xft_1, .pointer root_2, .pointer node_3, .pointer predecessor_4, .pointer successor_5] k = F55 k xft_1 root_2 node_3 predecessor_4 successor_5 := by kernel_rfl
theorem F55_calls {xft_1 : Option Addr} {root_2 : Option Addr} {node_3 : Option Addr} {predecessor_4 : Option Addr} {successor_5 : Option Addr} {w : World} {R : Ending → World → Prop} (h : F55 (fun v w => R (.returned v) w) xft_1 root_2 node_3 predecessor_4 successor_5 w) : Calls Go.Proofs.Tryd.prog 55 #[.pointer xft_1, .pointer root_2, .pointer node_3, .pointer predecessor_4, .pointer successor_5] w R :=
  calls_of_compF noNum follows [(1, [(1, .ptr), (2, .ptr), (3, .ptr), (4, .ptr), (10, .ptr)])] (f := 55) (fn := Go.Proofs.Tryd.f55) (body := Go.Proofs.Tryd.f55.body.getD .skip) (args := [.pointer xft_1, .pointer root_2, .pointer node_3, .pointer predecessor_4, .pointer successor_5]) rfl rfl (Nat.le_of_ble_eq_true rfl) ((congrFun (F55_eq _ xft_1 root_2 node_3 predecessor_4 successor_5) w).mpr h)
theorem F55_call {xft_1 : Option Addr} {root_2 : Option Addr} {node_3 : Option Addr} {predecessor_4 : Option Addr} {successor_5 : Option Addr} {w : World} {g : Fn W (RTy.leaves (.tup []))} (h : F55 (fun v => Back (.tup []) g (.returned v)) xft_1 root_2 node_3 predecessor_4 successor_5 w) : CallT Go.Proofs.Tryd.prog 55 [.pointer xft_1, .pointer root_2, .pointer node_3, .pointer predecessor_4, .pointer successor_5] (.tup []) g w := F55_calls h

/-! ## xfast.XFastTrie).insert -/
def F42_J8 (k : Value → W) (again73 : Option Addr → Value → Int → Option Addr → Option Addr → Option Addr → Option Addr → Int → W) (xft_115 : Option Addr) (entry_116 : Value) (key_117 : Int) (n_118 : Option Addr) (predecessor_119 : Option Addr) (successor_120 : Option Addr) (root_121 : Option Addr) (leftOrRight_122 : Int) (i_123 : Int) : W :=
 NN n_118 fun a124 =>
 Req (0 ≤ leftOrRight_122 ∧ leftOrRight_122 < (2 : Int)) <|
 LoadT .ptr ((a124.add 1).add leftOrRight_122.toNat) fun p125 =>
 again73 xft_115 entry_116 key_117 p125 predecessor_119 successor_120 root_121 (addI .u8 i_123 1)
def F42_J7 (k : Value → W) (again73 : Option Addr → Value → Int → Option Addr → Option Addr → Option Addr → Option Addr → Int → W) (xft_97 : Option Addr) (entry_98 : Value) (key_99 : Int) (n_100 : Option Addr) (predecessor_101 : Option Addr) (successor_102 : Option Addr) (root_103 : Option Addr) (leftOrRight_104 : Int) (i_105 : Int) (nn_106 : Option Addr) : W :=
 NN n_100 fun a107 =>
 Req (0 ≤ leftOrRight_104 ∧ leftOrRight_104 < (2 : Int)) <|
 Store1 ((a107.add 1).add leftOrRight_104.toNat) (.pointer nn_106) <|
 Drw <|
 NN xft_97 fun a108 =>
 LoadT .slice a108 fun s109p s109l s109c =>
 NN s109p fun a110 =>
 Req (0 ≤ i_105 ∧ i_105 < ((s109l : Nat) : Int)) <|
 LoadT .map (a110.add i_105.toNat) fun m111 =>
 NN xft_97 fun a112 =>
 LoadT (.int .u8) (a112.add 4) fun x113 =>
 Req (0 ≤ addI .u8 x113 i_105 ∧ addI .u8 x113 i_105 < (64 : Int)) <|
 LoadT (.int .u64) ((⟨1, 0, none⟩ : Addr).add ((addI .u8 x113 i_105).toNat)) fun x114 =>
 RawU Go.Proofs.Tryd.prog (Instr.mapUpdate 88 (.map m111) (.int .u64 (andI .u64 key_99 x114)) (.pointer nn_106)) <|
 F42_J8 k again73 xft_97 entry_98 key_99 n_100 predecessor_101 successor_102 root_103 leftOrRight_104 i_105
def F42_J6 (k : Value → W) (again73 : Option Addr → Value → Int → Option Addr → Option Addr → Option Addr → Option Addr → Int → W) (xft_84 : Option Addr) (entry_85 : Value) (key_86 : Int) (n_87 : Option Addr) (predecessor_88 : Option Addr) (successor_89 : Option Addr) (root_90 : Option Addr) (leftOrRight_91 : Int) (i_92 : Int) (b93 : Bool) : W :=
 BIf b93 (
  NN xft_84 fun a94 =>
  LoadT (.int .u8) (a94.add 3) fun x95 =>
  BIf (decide (i_92 < (subI .u8 x95 1))) (
   CallT Go.Proofs.Tryd.prog 48 [.pointer n_87, .nilIface] (.s (.one .ptr)) fun p96 =>
   F42_J7 k again73 xft_84 entry_85 key_86 n_87 predecessor_88 successor_89 root_90 leftOrRight_91 i_92 p96) (
   CallT Go.Proofs.Tryd.prog 48 [.pointer n_87, entry_85] (.s (.one .ptr)) fun p126 =>
   NN xft_84 fun a127 =>
   LoadT (.int .u64) (a127.add 2) fun x128 =>
   Store1 (a127.add 2) (.int .u64 (addI .u64 x128 1)) <|
   F42_J7 k again73 xft_84 entry_85 key_86 n_87 predecessor_88 successor_89 root_90 leftOrRight_91 i_92 p126)) (
  F42_J8 k again73 xft_84 entry_85 key_86 n_87 predecessor_88 successor_89 root_90 leftOrRight_91 i_92)
def F42_J15 (k : Value → W) (xft_174 : Option Addr) (n_175 : Option Addr) (b176 : Bool) : W :=
 BIf b176 (
  NN xft_174 fun a177 =>
  Store1 (a177.add 5) (.pointer n_175) <|
  k (.tuple #[])) (
  k (.tuple #[]))
def F42_J14 (k : Value → W) (xft_169 : Option Addr) (key_170 : Int) (n_171 : Option Addr) : W :=
 NN xft_169 fun a172 =>
 LoadT .ptr (a172.add 5) fun p173 =>
 BIf p173.isNone (
  F42_J15 k xft_169 n_171 true) (
  NN xft_169 fun a178 =>
  LoadT .ptr (a178.add 5) fun p179 =>
  NN p179 fun a180 =>
  LoadT .any a180 fun v181 =>
  NextT Go.Proofs.Tryd.prog (callMethod v181 "Key" [].toArray) (.s (.one (.int .u64))) fun x182 =>
  F42_J15 k xft_169 n_171 (decide (key_170 < x182)))
def F42_J13 (k : Value → W) (xft_164 : Option Addr) (key_165 : Int) (n_166 : Option Addr) (b167 : Bool) : W :=
 BIf b167 (
  NN xft_164 fun a168 =>
  Store1 (a168.add 6) (.pointer n_166) <|
  F42_J14 k xft_164 key_165 n_166) (
  F42_J14 k xft_164 key_165 n_166)
def F42_J12 (k : Value → W) (xft_156 : Option Addr) (key_157 : Int) (n_158 : Option Addr) (predecessor_159 : Option Addr) (successor_160 : Option Addr) (root_161 : Option Addr) : W :=
 CallT Go.Proofs.Tryd.prog 55 [.pointer xft_156, .pointer root_161, .pointer n_158, .pointer predecessor_159, .pointer successor_160] (.tup []) <|
 NN xft_156 fun a162 =>
 LoadT .ptr (a162.add 6) fun p163 =>
 BIf p163.isNone (
  F42_J13 k xft_156 key_157 n_158 true) (
  NN xft_156 fun a183 =>
  LoadT .ptr (a183.add 6) fun p184 =>
  NN p184 fun a185 =>
  LoadT .any a185 fun v186 =>
  NextT Go.Proofs.Tryd.prog (callMethod v186 "Key" [].toArray) (.s (.one (.int .u64))) fun x187 =>
  F42_J13 k xft_156 key_157 n_158 (decide (key_157 > x187)))
def F42_J11 (k : Value → W) (xft_150 : Option Addr) (key_151 : Int) (n_152 : Option Addr) (predecessor_153 : Option Addr) (successor_154 : Option Addr) (root_155 : Option Addr) : W :=
 BIf (!predecessor_153.isNone) (
  CallT Go.Proofs.Tryd.prog 54 [.pointer xft_150, .pointer root_155, .pointer n_152, .pointer predecessor_153] (.tup []) <|
  F42_J12 k xft_150 key_151 n_152 predecessor_153 successor_154 root_155) (
  F42_J12 k xft_150 key_151 n_152 predecessor_153 successor_154 root_155)
def F42_J10 (k : Value → W) (xft_144 : Option Addr) (key_145 : Int) (n_146 : Option Addr) (predecessor_147 : Option Addr) (successor_148 : Option Addr) (root_149 : Option Addr) : W :=
 BIf (!successor_148.isNone) (
  CallT Go.Proofs.Tryd.prog 53 [.pointer xft_144, .pointer root_149, .pointer n_146, .pointer successor_148] (.tup []) <|
  F42_J11 k xft_144 key_145 n_146 predecessor_147 successor_148 root_149) (
  F42_J11 k xft_144 key_145 n_146 predecessor_147 successor_148 root_149)
def F42_J9 (k : Value → W) (xft_136 : Option Addr) (key_137 : Int) (n_138 : Option Addr) (predecessor_139 : Option Addr) (successor_140 : Option Addr) (root_141 : Option Addr) : W :=
 NN n_138 fun a142 =>
 Req (0 ≤ (1 : Int) ∧ (1 : Int) < (2 : Int)) <|
 Store1 ((a142.add 1).add ((1 : Int).toNat)) (.pointer successor_140) <|
 NN successor_140 fun a143 =>
 Req (0 ≤ (0 : Int) ∧ (0 : Int) < (2 : Int)) <|
 Store1 ((a143.add 1).add ((0 : Int).toNat)) (.pointer n_138) <|
 F42_J10 k xft_136 key_137 n_138 predecessor_139 successor_140 root_141
def F42_L1 (k : Value → W) (again73 : Option Addr → Value → Int → Option Addr → Option Addr → Option Addr → Option Addr → Int → W) (xft_65 : Option Addr) (entry_66 : Value) (key_67 : Int) (n_68 : Option Addr) (predecessor_69 : Option Addr) (successor_70 : Option Addr) (root_71 : Option Addr) (i_72 : Int) : W :=
 NN xft_65 fun a74 =>
 LoadT (.int .u8) (a74.add 3) fun x75 =>
 BIf (decide (i_72 < x75)) (
  Drw <|
  NN xft_65 fun a76 =>
  LoadT (.int .u8) (a76.add 4) fun x77 =>
  Req (0 ≤ addI .u8 x77 i_72 ∧ addI .u8 x77 i_72 < (64 : Int)) <|
  LoadT (.int .u64) ((⟨0, 0, none⟩ : Addr).add ((addI .u8 x77 i_72).toNat)) fun x78 =>
  NN xft_65 fun a79 =>
  LoadT (.int .u8) (a79.add 3) fun x80 =>
  Req (0 ≤ subI .u8 (subI .u8 x80 1) i_72) <|
  Bind (shrI .u64 (andI .u64 key_67 x78) (subI .u8 (subI .u8 x80 1) i_72).toNat : Int) fun leftOrRight_81 =>
  NN n_68 fun a82 =>
  Req (0 ≤ leftOrRight_81 ∧ leftOrRight_81 < (2 : Int)) <|
  LoadT .ptr ((a82.add 1).add leftOrRight_81.toNat) fun p83 =>
  BIf p83.isNone (
   F42_J6 k again73 xft_65 entry_66 key_67 n_68 predecessor_69 successor_70 root_71 leftOrRight_81 i_72 true) (
   NN n_68 fun a129 =>
   Req (0 ≤ leftOrRight_81 ∧ leftOrRight_81 < (2 : Int)) <|
   LoadT .ptr ((a129.add 1).add leftOrRight_81.toNat) fun p130 =>
   CallT Go.Proofs.Tryd.prog 52 [.pointer p130] (.s (.one .bool)) fun b131 =>
   F42_J6 k again73 xft_65 entry_66 key_67 n_68 predecessor_69 successor_70 root_71 leftOrRight_81 i_72 b131)) (
  BIf (!successor_70.isNone) (
   NN successor_70 fun a132 =>
   Req (0 ≤ (0 : Int) ∧ (0 : Int) < (2 : Int)) <|
   LoadT .ptr ((a132.add 1).add ((0 : Int).toNat)) fun p133 =>
   BIf (!p133.isNone) (
    NN p133 fun a134 =>
    Req (0 ≤ (1 : Int) ∧ (1 : Int) < (2 : Int)) <|
    Store1 ((a134.add 1).add ((1 : Int).toNat)) (.pointer n_68) <|
    NN n_68 fun a135 =>
    Req (0 ≤ (0 : Int) ∧ (0 : Int) < (2 : Int)) <|
    Store1 ((a135.add 1).add ((0 : Int).toNat)) (.pointer p133) <|
    F42_J9 k xft_65 key_67 n_68 p133 successor_70 root_71) (
    F42_J9 k xft_65 key_67 n_68 p133 successor_70 root_71)) (
   BIf (!predecessor_69.isNone) (
    NN n_68 fun a188 =>
    Req (0 ≤ (0 : Int) ∧ (0 : Int) < (2 : Int)) <|
    Store1 ((a188.add 1).add ((0 : Int).toNat)) (.pointer predecessor_69) <|
    NN predecessor_69 fun a189 =>
    Req (0 ≤ (1 : Int) ∧ (1 : Int) < (2 : Int)) <|
    Store1 ((a189.add 1).add ((1 : Int).toNat)) (.pointer n_68) <|
    F42_J10 k xft_65 key_67 n_68 predecessor_69 successor_70 root_71) (
    F42_J10 k xft_65 key_67 n_68 predecessor_69 successor_70 root_71)))
theorem F42_L1_rule {k : Value → W} (I : Option Addr → Value → Int → Option Addr → Option Addr → Option Addr → Option Addr → Int → W) (μ : Option Addr → Value → Int → Option Addr → Option Addr → Option Addr → Option Addr → Int → World → Nat)
  (hr : ∀ (xft_65 : Option Addr) (entry_66 : Value) (key_67 : Int) (n_68 : Option Addr) (predecessor_69 : Option Addr) (successor_70 : Option Addr) (root_71 : Option Addr) (i_72 : Int) (w : World), I xft_65 entry_66 key_67 n_68 predecessor_69 successor_70 root_71 i_72 w → F42_L1 k (fun xft_65' entry_66' key_67' n_68' predecessor_69' successor_70' root_71' i_72' w' => I xft_65' entry_66' key_67' n_68' predecessor_69' successor_70' root_71' i_72' w' ∧ μ xft_65' entry_66' key_67' n_68' predecessor_69' successor_70' root_71' i_72' w' < μ xft_65 entry_66 key_67 n_68 predecessor_69 successor_70 root_71 i_72 w) xft_65 entry_66 key_67 n_68 predecessor_69 successor_70 root_71 i_72 w)
  {w : World} {xft_65 : Option Addr} {entry_66 : Value} {key_67 : Int} {n_68 : Option Addr} {predecessor_69 : Option Addr} {successor_70 : Option Addr} {root_71 : Option Addr} {i_72 : Int} (h : I xft_65 entry_66 key_67 n_68 predecessor_69 successor_70 root_71 i_72 w) : Loop [.ptr, .any, (.int .u64), .ptr, .ptr, .ptr, .ptr, (.int .u8)] (F42_L1 k) xft_65 entry_66 key_67 n_68 predecessor_69 successor_70 root_71 i_72 w :=
  Loop_intro (ts := [.ptr, .any, (.int .u64), .ptr, .ptr, .ptr, .ptr, (.int .u8)]) (s := (xft_65, entry_66, key_67, n_68, predecessor_69, successor_70, root_71, i_72, ())) (fun s w => I s.1 s.2.1 s.2.2.1 s.2.2.2.1 s.2.2.2.2.1 s.2.2.2.2.2.1 s.2.2.2.2.2.2.1 s.2.2.2.2.2.2.2.1 w) (fun s w => μ s.1 s.2.1 s.2.2.1 s.2.2.2.1 s.2.2.2.2.1 s.2.2.2.2.2.1 s.2.2.2.2.2.2.1 s.2.2.2.2.2.2.2.1 w) h (fun s w h => hr s.1 s.2.1 s.2.2.1 s.2.2.2.1 s.2.2.2.2.1 s.2.2.2.2.2.1 s.2.2.2.2.2.2.1 s.2.2.2.2.2.2.2.1 w h)
def F42_J5 (k : Value → W) (xft_56 : Option Addr) (entry_57 : Value) (key_58 : Int) (n_59 : Option Addr) (predecessor_60 : Option Addr) (successor_61 : Option Addr) (layer_62 : Int) (root_63 : Option Addr) : W :=
 Bind (IntKind.wrap .u8 layer_62 : Int) fun i_64 =>
 Loop [.ptr, .any, (.int .u64), .ptr, .ptr, .ptr, .ptr, (.int .u8)] (F42_L1 k) xft_56 entry_57 key_58 n_59 predecessor_60 successor_61 root_63 i_64
def F42_J4 (k : Value → W) (xft_45 : Option Addr) (entry_46 : Value) (key_47 : Int) (predecessor_48 : Option Addr) (successor_49 : Option Addr) : W :=
 NN xft_45 fun a50 =>
 LoadT .slice a50 fun s51p s51l s51c =>
 CallT Go.Proofs.Tryd.prog 51 [.slice s51p s51l s51c, .int .u64 key_47] (.tup [(.one (.int .i64)), (.one .ptr)]) fun x52 p53 =>
 BIf p53.isNone (
  NN xft_45 fun a54 =>
  LoadT .ptr (a54.add 1) fun p55 =>
  F42_J5 k xft_45 entry_46 key_47 p55 predecessor_48 successor_49 0 p53) (
  F42_J5 k xft_45 entry_46 key_47 p53 predecessor_48 successor_49 x52 p53)
def F42_J3 (k : Value → W) (xft_38 : Option Addr) (entry_39 : Value) (key_40 : Int) (successor_41 : Option Addr) (b42 : Bool) : W :=
 BIf b42 (
  NN xft_38 fun a43 =>
  LoadT .ptr (a43.add 6) fun p44 =>
  F42_J4 k xft_38 entry_39 key_40 p44 successor_41) (
  CallT Go.Proofs.Tryd.prog 50 [.pointer xft_38, .int .u64 key_40] (.s (.one .ptr)) fun p190 =>
  F42_J4 k xft_38 entry_39 key_40 p190 successor_41)
def F42_J2 (k : Value → W) (xft_26 : Option Addr) (entry_27 : Value) (key_28 : Int) (predecessor_29 : Option Addr) (successor_30 : Option Addr) : W :=
 BIf successor_30.isNone (
  NN xft_26 fun a31 =>
  LoadT .ptr (a31.add 6) fun p32 =>
  BIf (!p32.isNone) (
   NN xft_26 fun a33 =>
   LoadT .ptr (a33.add 6) fun p34 =>
   NN p34 fun a35 =>
   LoadT .any a35 fun v36 =>
   NextT Go.Proofs.Tryd.prog (callMethod v36 "Key" [].toArray) (.s (.one (.int .u64))) fun x37 =>
   F42_J3 k xft_26 entry_27 key_28 successor_30 (decide (key_28 > x37))) (
   F42_J3 k xft_26 entry_27 key_28 successor_30 false)) (
  F42_J4 k xft_26 entry_27 key_28 predecessor_29 successor_30)
def F42_J1 (k : Value → W) (xft_19 : Option Addr) (entry_20 : Value) (key_21 : Int) (predecessor_22 : Option Addr) (b23 : Bool) : W :=
 BIf b23 (
  NN xft_19 fun a24 =>
  LoadT .ptr (a24.add 5) fun p25 =>
  F42_J2 k xft_19 entry_20 key_21 predecessor_22 p25) (
  CallT Go.Proofs.Tryd.prog 49 [.pointer xft_19, .int .u64 key_21] (.s (.one .ptr)) fun p191 =>
  F42_J2 k xft_19 entry_20 key_21 predecessor_22 p191)
def F42 (k : Value → W) (xft_1 : Option Addr) (entry_2 : Value) : W :=
 NextT Go.Proofs.Tryd.prog (callMethod entry_2 "Key" [].toArray) (.s (.one (.int .u64))) fun x3 =>
 Drw <|
 NN xft_1 fun a4 =>
 LoadT .slice a4 fun s5p s5l s5c =>
 NN xft_1 fun a6 =>
 LoadT (.int .u8) (a6.add 3) fun x7 =>
 NN s5p fun a8 =>
 Req (0 ≤ subI .u8 x7 1 ∧ subI .u8 x7 1 < ((s5l : Nat) : Int)) <|
 LoadT .map (a8.add ((subI .u8 x7 1).toNat)) fun m9 =>
 RawS Go.Proofs.Tryd.prog (Instr.lookup 88 (.map m9) (.int .u64 x3) false) (.s (.one .ptr)) fun p10 =>
 Chk1 (a6.add 3) (.int .u8 x7) <|
 Chk1 a4 (.slice s5p s5l s5c) <|
 BIf (!p10.isNone) (
  NN p10 fun a11 =>
  Req (oneC entry_2 = true) <|
  Store1 a11 entry_2 <|
  k (.tuple #[])) (
  NN xft_1 fun a12 =>
  LoadT .ptr (a12.add 5) fun p13 =>
  BIf (!p13.isNone) (
   NN xft_1 fun a14 =>
   LoadT .ptr (a14.add 5) fun p15 =>
   NN p15 fun a16 =>
   LoadT .any a16 fun v17 =>
   NextT Go.Proofs.Tryd.prog (callMethod v17 "Key" [].toArray) (.s (.one (.int .u64))) fun x18 =>
   F42_J1 k xft_1 entry_2 x3 none (decide (x3 < x18))) (
   F42_J1 k xft_1 entry_2 x3 none false))
theorem F42_eq (k : Value → W) (xft_1 : Option Addr) (entry_2 : Value) : compF Go.Proofs.Tryd.prog Go.Proofs.Tryd.f42 [(19, [(0, .ptr), (1, .any), (4, (.int .u64)), (5, .ptr), (6, .ptr), (7, .ptr), (9, .ptr), (11, (.int .u8))])] (Go.Proofs.Tryd.f42.body.getD .skip) [.pointer xft_1, entry_2] k = F42 k xft_1 entry_2 := by kernel_rfl
theorem F42_calls {xft_1 : Option Addr} {entry_2 : Value} {w : World} {R : Ending → World → Prop} (h : F42 (fun v w => R (.returned v) w) xft_1 entry_2 w) : Calls Go.Proofs.Tryd.prog 42 #[.pointer xft_1, entry_2] w R :=
  calls_of_compF noNum follows [(19, [(0, .ptr), (1, .any), (4, (.int .u64)), (5, .ptr), (6, .ptr), (7, .ptr), (9, .ptr), (11, (.int .u8))])] (f := 42) (fn := Go.Proofs.Tryd.f42) (body := Go.Proofs.Tryd.f42.body.getD .skip) (args := [.pointer xft_1, entry_2]) rfl rfl (Nat.le_of_ble_eq_true rfl) ((congrFun (F42_eq _ xft_1 entry_2) w).mpr h)
theorem F42_call {xft_1 : Option Addr} {entry_2 : Value} {w : World} {g : Fn W (RTy.leaves (.tup []))} (h : F42 (fun v => Back (.tup []) g (.returned v)) xft_1 entry_2 w) : CallT Go.Proofs.Tryd.prog 42 [.pointer xft_1, entry_2] (.tup []) g w := F42_calls h

/-! ## xfast.XFastTrie).Insert -/
def F24_L1 (k : Value → W) (again7 : Option Addr → Option Addr → Nat → Nat → Int → Int → W) (xft_3 : Option Addr) (s4p : Option Addr) (s4l : Nat) (s4c : Nat) (x5 : Int) (x6 : Int) : W :=
 BIf (decide (x6 < x5)) (
  NN s4p fun a8 =>
  Req (0 ≤ x6 ∧ x6 < ((s4l : Nat) : Int)) <|
  LoadT .any (a8.add x6.toNat) fun v9 =>
  CallT Go.Proofs.Tryd.prog 42 [.pointer xft_3, v9] (.tup []) <|
  again7 xft_3 s4p s4l s4c x5 (addI .i64 x6 1)) (
  k (.tuple #[]))
theorem F24_L1_rule {k : Value → W} (I : Option Addr → Option Addr → Nat → Nat → Int → Int → W) (μ : Option Addr → Option Addr → Nat → Nat → Int → Int → World → Nat)
  (hr : ∀ (xft_3 : Option Addr) (s4p : Option Addr) (s4l : Nat) (s4c : Nat) (x5 : Int) (x6 : Int) (w : World), I xft_3 s4p s4l s4c x5 x6 w → F24_L1 k (fun xft_3' s4p' s4l' s4c' x5' x6' w' => I xft_3' s4p' s4l' s4c' x5' x6' w' ∧ μ xft_3' s4p' s4l' s4c' x5' x6' w' < μ xft_3 s4p s4l s4c x5 x6 w) xft_3 s4p s4l s4c x5 x6 w)
  {w : World} {xft_3 : Option Addr} {s4p : Option Addr} {s4l : Nat} {s4c : Nat} {x5 : Int} {x6 : Int} (h : I xft_3 s4p s4l s4c x5 x6 w) : Loop [.ptr, .slice, (.int .i64), (.int .i64)] (F24_L1 k) xft_3 s4p s4l s4c x5 x6 w :=
  Loop_intro (ts := [.ptr, .slice, (.int .i64), (.int .i64)]) (s := (xft_3, (s4p, s4l, s4c), x5, x6, ())) (fun s w => I s.1 s.2.1.1 s.2.1.2.1 s.2.1.2.2 s.2.2.1 s.2.2.2.1 w) (fun s w => μ s.1 s.2.1.1 s.2.1.2.1 s.2.1.2.2 s.2.2.1 s.2.2.2.1 w) h (fun s w h => hr s.1 s.2.1.1 s.2.1.2.1 s.2.1.2.2 s.2.2.1 s.2.2.2.1 w h)
def F24 (k : Value → W) (xft_1 : Option Addr) (entries_2p : Option Addr) (entries_2l : Nat) (entries_2c : Nat) : W :=
 Loop [.ptr, .slice, (.int .i64), (.int .i64)] (F24_L1 k) xft_1 entries_2p entries_2l entries_2c ((entries_2l : Nat) : Int) 0
theorem F24_eq (k : Value → W) (xft_1 : Option Addr) (entries_2p : Option Addr) (entries_2l : Nat) (entries_2c : Nat) : compF Go.Proofs.Tryd.prog Go.Proofs.Tryd.f24 [(1, [(0, .ptr), (6, .slice), (7, (.int .i64)), (8, (.int .i64))])] (Go.Proofs.Tryd.f24.body.getD .skip) [.pointer xft_1, .slice entries_2p entries_2l entries_2c] k = F24 k xft_1 entries_2p entries_2l entries_2c := by kernel_rfl
theorem F24_calls {xft_1 : Option Addr} {entries_2p : Option Addr} {entries_2l : Nat} {entries_2c : Nat} {w : World} {R : Ending → World → Prop} (h : F24 (fun v w => R (.returned v) w) xft_1 entries_2p entries_2l entries_2c w) : Calls Go.Proofs.Tryd.prog 24 #[.pointer xft_1, .slice entries_2p entries_2l entries_2c] w R :=
  calls_of_compF noNum follows [(1, [(0, .ptr), (6, .slice), (7, (.int .i64)), (8, (.int .i64))])] (f := 24) (fn := Go.Proofs.Tryd.f24) (body := Go.Proofs.Tryd.f24.body.getD .skip) (args := [.pointer xft_1, .slice entries_2p entries_2l entries_2c]) rfl rfl (Nat.le_of_ble_eq_true rfl) ((congrFun (F24_eq _ xft_1 entries_2p entries_2l entries_2c) w).mpr h)
theorem F24_call {xft_1 : Option Addr} {entries_2p : Option Addr} {entries_2l : Nat} {entries_2c : Nat} {w : World} {g : Fn W (RTy.leaves (.tup []))} (h : F24 (fun v => Back (.tup []) g (.returned v)) xft_1 entries_2p entries_2l entries_2c w) : CallT Go.Proofs.Tryd.prog 24 [.pointer xft_1, .slice entries_2p entries_2l entries_2c] (.tup []) g w := F24_calls h

end Go.Proofs.YtaacaokocamlcaaDoor.E
