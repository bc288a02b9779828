/-
  Printed by this session's own program eng.py out of Lean's print of the loaded functions: what each function's body asks, in the engine's words; each is checked against the program by the kernel.
-/
import Derived.Test.YtmaejciimpnogaaDoorEng
import Derived.Test.YtmaejciimpnogaaDoorFnsA
namespace Go.Proofs.YtmaejciimpnogaaDoor.E
open Go
set_option linter.unusedVariables false
set_option maxRecDepth 100000
/-! ## laws.zzFits2 -/
def F10 (k : Value → W) (x1 : Int) (x2 : Int) (x3 : Int) (x4 : Int) (s5p : Option Addr) (s5l : Nat) (s5c : Nat) : W :=
 New [.int .i64 x1, .int .i64 x2, .int .i64 x3, .int .i64 x4, .slice s5p s5l s5c] 29 fun n6 =>
 LoadT .slice ⟨n6, 4, none⟩ fun s7p s7l s7c =>
 BIf (decide (((s7l : Nat) : Int) > 2147483647)) (
  k (.bool false)) (
  k (.bool true))
theorem F10_eq (k : Value → W) (x1 : Int) (x2 : Int) (x3 : Int) (x4 : Int) (s5p : Option Addr) (s5l : Nat) (s5c : Nat) : compF Go.Proofs.Tryd.prog Go.Proofs.Tryd.f10 [] (Go.Proofs.Tryd.f10.body.getD .skip) [.agg #[.int .i64 x1, .int .i64 x2, .int .i64 x3, .int .i64 x4, .slice s5p s5l s5c]] k = F10 k x1 x2 x3 x4 s5p s5l s5c := by kernel_rfl
theorem F10_calls {x1 : Int} {x2 : Int} {x3 : Int} {x4 : Int} {s5p : Option Addr} {s5l : Nat} {s5c : Nat} {w : World} {R : Ending → World → Prop} (h : F10 (fun v w => R (.returned v) w) x1 x2 x3 x4 s5p s5l s5c w) : Calls Go.Proofs.Tryd.prog 10 #[.agg #[.int .i64 x1, .int .i64 x2, .int .i64 x3, .int .i64 x4, .slice s5p s5l s5c]] w R :=
  calls_of_compF noNum follows [] (f := 10) (fn := Go.Proofs.Tryd.f10) (body := Go.Proofs.Tryd.f10.body.getD .skip) (args := [.agg #[.int .i64 x1, .int .i64 x2, .int .i64 x3, .int .i64 x4, .slice s5p s5l s5c]]) rfl rfl (Nat.le_of_ble_eq_true rfl) ((congrFun (F10_eq _ x1 x2 x3 x4 s5p s5l s5c) w).mpr h)
theorem F10_call {x1 : Int} {x2 : Int} {x3 : Int} {x4 : Int} {s5p : Option Addr} {s5l : Nat} {s5c : Nat} {w : World} {g : Fn W (RTy.leaves (.s (.one .bool)))} (h : F10 (fun v => Back (.s (.one .bool)) g (.returned v)) x1 x2 x3 x4 s5p s5l s5c w) : CallT Go.Proofs.Tryd.prog 10 [.agg #[.int .i64 x1, .int .i64 x2, .int .i64 x3, .int .i64 x4, .slice s5p s5l s5c]] (.s (.one .bool)) g w := F10_calls h

/-! ## laws.zzFits1 -/
def F5_L1 (k : Value → W) (again5 : Option Addr → Nat → Nat → Int → Int → W) (s2p : Option Addr) (s2l : Nat) (s2c : Nat) (x3 : Int) (x4 : Int) : W :=
 BIf (decide (x4 < x3)) (
  NN s2p fun a6 =>
  Req (0 ≤ x4 ∧ x4 < ((s2l : Nat) : Int)) <|
  LoadT (.int .i64) ((a6.add (x4.toNat * 5)).add 0) fun x7 =>
  LoadT (.int .i64) ((a6.add (x4.toNat * 5)).add 1) fun x8 =>
  LoadT (.int .i64) ((a6.add (x4.toNat * 5)).add 2) fun x9 =>
  LoadT (.int .i64) ((a6.add (x4.toNat * 5)).add 3) fun x10 =>
  LoadT .slice ((a6.add (x4.toNat * 5)).add 4) fun s11p s11l s11c =>
  New [.int .i64 0, .int .i64 0, .int .i64 0, .int .i64 0, .slice none 0 0] 29 fun n12 =>
  Store1 ⟨n12, 0, none⟩ (.int .i64 x7) <|
  Store1 ⟨n12, 1, none⟩ (.int .i64 x8) <|
  Store1 ⟨n12, 2, none⟩ (.int .i64 x9) <|
  Store1 ⟨n12, 3, none⟩ (.int .i64 x10) <|
  Store1 ⟨n12, 4, none⟩ (.slice s11p s11l s11c) <|
  LoadT (.int .i64) ⟨n12, 0, none⟩ fun x13 =>
  LoadT (.int .i64) ⟨n12, 1, none⟩ fun x14 =>
  LoadT (.int .i64) ⟨n12, 2, none⟩ fun x15 =>
  LoadT (.int .i64) ⟨n12, 3, none⟩ fun x16 =>
  LoadT .slice ⟨n12, 4, none⟩ fun s17p s17l s17c =>
  CallT Go.Proofs.Tryd.prog 10 [.agg #[.int .i64 x13, .int .i64 x14, .int .i64 x15, .int .i64 x16, .slice s17p s17l s17c]] (.s (.one .bool)) fun b18 =>
  BIf (!b18) (
   k (.bool false)) (
   again5 s2p s2l s2c x3 (addI .i64 x4 1))) (
  k (.bool true))
theorem F5_L1_rule {k : Value → W} (I : Option Addr → Nat → Nat → Int → Int → W) (μ : Option Addr → Nat → Nat → Int → Int → World → Nat)
  (hr : ∀ (s2p : Option Addr) (s2l : Nat) (s2c : Nat) (x3 : Int) (x4 : Int) (w : World), I s2p s2l s2c x3 x4 w → F5_L1 k (fun s2p' s2l' s2c' x3' x4' w' => I s2p' s2l' s2c' x3' x4' w' ∧ μ s2p' s2l' s2c' x3' x4' w' < μ s2p s2l s2c x3 x4 w) s2p s2l s2c x3 x4 w)
  {w : World} {s2p : Option Addr} {s2l : Nat} {s2c : Nat} {x3 : Int} {x4 : Int} (h : I s2p s2l s2c x3 x4 w) : Loop [.slice, (.int .i64), (.int .i64)] (F5_L1 k) s2p s2l s2c x3 x4 w :=
  Loop_intro (ts := [.slice, (.int .i64), (.int .i64)]) (s := ((s2p, s2l, s2c), x3, x4, ())) (fun s w => I s.1.1 s.1.2.1 s.1.2.2 s.2.1 s.2.2.1 w) (fun s w => μ s.1.1 s.1.2.1 s.1.2.2 s.2.1 s.2.2.1 w) h (fun s w h => hr s.1.1 s.1.2.1 s.1.2.2 s.2.1 s.2.2.1 w h)
def F5 (k : Value → W) (x_1p : Option Addr) (x_1l : Nat) (x_1c : Nat) : W :=
 BIf (decide (((x_1l : Nat) : Int) > 2147483647)) (
  k (.bool false)) (
  Loop [.slice, (.int .i64), (.int .i64)] (F5_L1 k) x_1p x_1l x_1c ((x_1l : Nat) : Int) 0)
theorem F5_eq (k : Value → W) (x_1p : Option Addr) (x_1l : Nat) (x_1c : Nat) : compF Go.Proofs.Tryd.prog Go.Proofs.Tryd.f5 [(4, [(8, .slice), (9, (.int .i64)), (10, (.int .i64))])] (Go.Proofs.Tryd.f5.body.getD .skip) [.slice x_1p x_1l x_1c] k = F5 k x_1p x_1l x_1c := by kernel_rfl
theorem F5_calls {x_1p : Option Addr} {x_1l : Nat} {x_1c : Nat} {w : World} {R : Ending → World → Prop} (h : F5 (fun v w => R (.returned v) w) x_1p x_1l x_1c w) : Calls Go.Proofs.Tryd.prog 5 #[.slice x_1p x_1l x_1c] w R :=
  calls_of_compF noNum follows [(4, [(8, .slice), (9, (.int .i64)), (10, (.int .i64))])] (f := 5) (fn := Go.Proofs.Tryd.f5) (body := Go.Proofs.Tryd.f5.body.getD .skip) (args := [.slice x_1p x_1l x_1c]) rfl rfl (Nat.le_of_ble_eq_true rfl) ((congrFun (F5_eq _ x_1p x_1l x_1c) w).mpr h)
theorem F5_call {x_1p : Option Addr} {x_1l : Nat} {x_1c : Nat} {w : World} {g : Fn W (RTy.leaves (.s (.one .bool)))} (h : F5 (fun v => Back (.s (.one .bool)) g (.returned v)) x_1p x_1l x_1c w) : CallT Go.Proofs.Tryd.prog 5 [.slice x_1p x_1l x_1c] (.s (.one .bool)) g w := F5_calls h

/-! ## laws.dcFit -/
def F6_L2 (k : Value → W) (again8 : Int → Option Addr → Nat → Nat → Option Addr → Nat → Nat → Int → Int → W) (again39 : Int → Option Addr → Nat → Nat → Option Addr → Nat → Nat → Int → Int → Option Addr → Nat → Nat → Int → Int → W) (capacity_31 : Int) (steps_32p : Option Addr) (steps_32l : Nat) (steps_32c : Nat) (s33p : Option Addr) (s33l : Nat) (s33c : Nat) (x34 : Int) (x35 : Int) (s36p : Option Addr) (s36l : Nat) (s36c : Nat) (x37 : Int) (x38 : Int) : W :=
 BIf (decide (x38 < x37)) (
  NN s36p fun a40 =>
  Req (0 ≤ x38 ∧ x38 < ((s36l : Nat) : Int)) <|
  LoadT (.int .i64) (a40.add x38.toNat) fun x41 =>
  BIf (decide (x41 < 0)) (
   k (.bool false)) (
   BIf (decide (x41 > 9)) (
    k (.bool false)) (
    again39 capacity_31 steps_32p steps_32l steps_32c s33p s33l s33c x34 x35 s36p s36l s36c x37 (addI .i64 x38 1)))) (
  again8 capacity_31 steps_32p steps_32l steps_32c s33p s33l s33c x34 (addI .i64 x35 1))
theorem F6_L2_rule {k : Value → W} {again8 : Int → Option Addr → Nat → Nat → Option Addr → Nat → Nat → Int → Int → W} (I : Int → Option Addr → Nat → Nat → Option Addr → Nat → Nat → Int → Int → Option Addr → Nat → Nat → Int → Int → W) (μ : Int → Option Addr → Nat → Nat → Option Addr → Nat → Nat → Int → Int → Option Addr → Nat → Nat → Int → Int → World → Nat)
  (hr : ∀ (capacity_31 : Int) (steps_32p : Option Addr) (steps_32l : Nat) (steps_32c : Nat) (s33p : Option Addr) (s33l : Nat) (s33c : Nat) (x34 : Int) (x35 : Int) (s36p : Option Addr) (s36l : Nat) (s36c : Nat) (x37 : Int) (x38 : Int) (w : World), I capacity_31 steps_32p steps_32l steps_32c s33p s33l s33c x34 x35 s36p s36l s36c x37 x38 w → F6_L2 k again8 (fun capacity_31' steps_32p' steps_32l' steps_32c' s33p' s33l' s33c' x34' x35' s36p' s36l' s36c' x37' x38' w' => I capacity_31' steps_32p' steps_32l' steps_32c' s33p' s33l' s33c' x34' x35' s36p' s36l' s36c' x37' x38' w' ∧ μ capacity_31' steps_32p' steps_32l' steps_32c' s33p' s33l' s33c' x34' x35' s36p' s36l' s36c' x37' x38' w' < μ capacity_31 steps_32p steps_32l steps_32c s33p s33l s33c x34 x35 s36p s36l s36c x37 x38 w) capacity_31 steps_32p steps_32l steps_32c s33p s33l s33c x34 x35 s36p s36l s36c x37 x38 w)
  {w : World} {capacity_31 : Int} {steps_32p : Option Addr} {steps_32l : Nat} {steps_32c : Nat} {s33p : Option Addr} {s33l : Nat} {s33c : Nat} {x34 : Int} {x35 : Int} {s36p : Option Addr} {s36l : Nat} {s36c : Nat} {x37 : Int} {x38 : Int} (h : I capacity_31 steps_32p steps_32l steps_32c s33p s33l s33c x34 x35 s36p s36l s36c x37 x38 w) : Loop [(.int .i64), .slice, .slice, (.int .i64), (.int .i64), .slice, (.int .i64), (.int .i64)] (F6_L2 k again8) capacity_31 steps_32p steps_32l steps_32c s33p s33l s33c x34 x35 s36p s36l s36c x37 x38 w :=
  Loop_intro (ts := [(.int .i64), .slice, .slice, (.int .i64), (.int .i64), .slice, (.int .i64), (.int .i64)]) (s := (capacity_31, (steps_32p, steps_32l, steps_32c), (s33p, s33l, s33c), x34, x35, (s36p, s36l, s36c), x37, x38, ())) (fun s w => I s.1 s.2.1.1 s.2.1.2.1 s.2.1.2.2 s.2.2.1.1 s.2.2.1.2.1 s.2.2.1.2.2 s.2.2.2.1 s.2.2.2.2.1 s.2.2.2.2.2.1.1 s.2.2.2.2.2.1.2.1 s.2.2.2.2.2.1.2.2 s.2.2.2.2.2.2.1 s.2.2.2.2.2.2.2.1 w) (fun s w => μ s.1 s.2.1.1 s.2.1.2.1 s.2.1.2.2 s.2.2.1.1 s.2.2.1.2.1 s.2.2.1.2.2 s.2.2.2.1 s.2.2.2.2.1 s.2.2.2.2.2.1.1 s.2.2.2.2.2.1.2.1 s.2.2.2.2.2.1.2.2 s.2.2.2.2.2.2.1 s.2.2.2.2.2.2.2.1 w) h (fun s w h => hr s.1 s.2.1.1 s.2.1.2.1 s.2.1.2.2 s.2.2.1.1 s.2.2.1.2.1 s.2.2.1.2.2 s.2.2.2.1 s.2.2.2.2.1 s.2.2.2.2.2.1.1 s.2.2.2.2.2.1.2.1 s.2.2.2.2.2.1.2.2 s.2.2.2.2.2.2.1 s.2.2.2.2.2.2.2.1 w h)
def F6_J1 (k : Value → W) (again8 : Int → Option Addr → Nat → Nat → Option Addr → Nat → Nat → Int → Int → W) (capacity_24 : Int) (steps_25p : Option Addr) (steps_25l : Nat) (steps_25c : Nat) (s_26 : Addr) (s27p : Option Addr) (s27l : Nat) (s27c : Nat) (x28 : Int) (x29 : Int) : W :=
 LoadT .slice (s_26.add 4) fun s30p s30l s30c =>
 Loop [(.int .i64), .slice, .slice, (.int .i64), (.int .i64), .slice, (.int .i64), (.int .i64)] (F6_L2 k again8) capacity_24 steps_25p steps_25l steps_25c s27p s27l s27c x28 x29 s30p s30l s30c ((s30l : Nat) : Int) 0
def F6_L1 (k : Value → W) (again8 : Int → Option Addr → Nat → Nat → Option Addr → Nat → Nat → Int → Int → W) (capacity_3 : Int) (steps_4p : Option Addr) (steps_4l : Nat) (steps_4c : Nat) (s5p : Option Addr) (s5l : Nat) (s5c : Nat) (x6 : Int) (x7 : Int) : W :=
 BIf (decide (x7 < x6)) (
  NN s5p fun a9 =>
  Req (0 ≤ x7 ∧ x7 < ((s5l : Nat) : Int)) <|
  LoadT (.int .i64) ((a9.add (x7.toNat * 5)).add 0) fun x10 =>
  LoadT (.int .i64) ((a9.add (x7.toNat * 5)).add 1) fun x11 =>
  LoadT (.int .i64) ((a9.add (x7.toNat * 5)).add 2) fun x12 =>
  LoadT (.int .i64) ((a9.add (x7.toNat * 5)).add 3) fun x13 =>
  LoadT .slice ((a9.add (x7.toNat * 5)).add 4) fun s14p s14l s14c =>
  New [.int .i64 0, .int .i64 0, .int .i64 0, .int .i64 0, .slice none 0 0] 29 fun n15 =>
  Store1 ⟨n15, 0, none⟩ (.int .i64 x10) <|
  Store1 ⟨n15, 1, none⟩ (.int .i64 x11) <|
  Store1 ⟨n15, 2, none⟩ (.int .i64 x12) <|
  Store1 ⟨n15, 3, none⟩ (.int .i64 x13) <|
  Store1 ⟨n15, 4, none⟩ (.slice s14p s14l s14c) <|
  LoadT (.int .i64) ⟨n15, 0, none⟩ fun x16 =>
  BIf (decide (x16 < 1)) (
   k (.bool false)) (
   LoadT (.int .i64) ⟨n15, 0, none⟩ fun x17 =>
   BIf (decide (x17 > 3)) (
    k (.bool false)) (
    LoadT .slice ⟨n15, 4, none⟩ fun s18p s18l s18c =>
    BIf (decide (((s18l : Nat) : Int) > 8)) (
     k (.bool false)) (
     LoadT (.int .i64) ⟨n15, 0, none⟩ fun x19 =>
     BIf (x19 == 1) (
      LoadT (.int .i64) ⟨n15, 1, none⟩ fun x20 =>
      BIf (decide (x20 < 0)) (
       k (.bool false)) (
       LoadT (.int .i64) ⟨n15, 1, none⟩ fun x21 =>
       BIf (decide (x21 > 9)) (
        k (.bool false)) (
        LoadT (.int .i64) ⟨n15, 2, none⟩ fun x22 =>
        BIf (decide (x22 < 1)) (
         k (.bool false)) (
         LoadT (.int .i64) ⟨n15, 2, none⟩ fun x23 =>
         BIf (decide (x23 > capacity_3)) (
          k (.bool false)) (
          F6_J1 k again8 capacity_3 steps_4p steps_4l steps_4c ⟨n15, 0, none⟩ s5p s5l s5c x6 x7))))) (
      F6_J1 k again8 capacity_3 steps_4p steps_4l steps_4c ⟨n15, 0, none⟩ s5p s5l s5c x6 x7))))) (
  BIf (decide (capacity_3 ≥ 1)) (
   BIf (decide (capacity_3 ≤ 60)) (
    BIf (decide (((steps_4l : Nat) : Int) > 0)) (
     Bind (decide (((steps_4l : Nat) : Int) ≤ 30)) fun y42 =>
     k (.bool y42)) (
     k (.bool false))) (
    k (.bool false))) (
   k (.bool false)))
theorem F6_L1_rule {k : Value → W} (I : Int → Option Addr → Nat → Nat → Option Addr → Nat → Nat → Int → Int → W) (μ : Int → Option Addr → Nat → Nat → Option Addr → Nat → Nat → Int → Int → World → Nat)
  (hr : ∀ (capacity_3 : Int) (steps_4p : Option Addr) (steps_4l : Nat) (steps_4c : Nat) (s5p : Option Addr) (s5l : Nat) (s5c : Nat) (x6 : Int) (x7 : Int) (w : World), I capacity_3 steps_4p steps_4l steps_4c s5p s5l s5c x6 x7 w → F6_L1 k (fun capacity_3' steps_4p' steps_4l' steps_4c' s5p' s5l' s5c' x6' x7' w' => I capacity_3' steps_4p' steps_4l' steps_4c' s5p' s5l' s5c' x6' x7' w' ∧ μ capacity_3' steps_4p' steps_4l' steps_4c' s5p' s5l' s5c' x6' x7' w' < μ capacity_3 steps_4p steps_4l steps_4c s5p s5l s5c x6 x7 w) capacity_3 steps_4p steps_4l steps_4c s5p s5l s5c x6 x7 w)
  {w : World} {capacity_3 : Int} {steps_4p : Option Addr} {steps_4l : Nat} {steps_4c : Nat} {s5p : Option Addr} {s5l : Nat} {s5c : Nat} {x6 : Int} {x7 : Int} (h : I capacity_3 steps_4p steps_4l steps_4c s5p s5l s5c x6 x7 w) : Loop [(.int .i64), .slice, .slice, (.int .i64), (.int .i64)] (F6_L1 k) capacity_3 steps_4p steps_4l steps_4c s5p s5l s5c x6 x7 w :=
  Loop_intro (ts := [(.int .i64), .slice, .slice, (.int .i64), (.int .i64)]) (s := (capacity_3, (steps_4p, steps_4l, steps_4c), (s5p, s5l, s5c), x6, x7, ())) (fun s w => I s.1 s.2.1.1 s.2.1.2.1 s.2.1.2.2 s.2.2.1.1 s.2.2.1.2.1 s.2.2.1.2.2 s.2.2.2.1 s.2.2.2.2.1 w) (fun s w => μ s.1 s.2.1.1 s.2.1.2.1 s.2.1.2.2 s.2.2.1.1 s.2.2.1.2.1 s.2.2.1.2.2 s.2.2.2.1 s.2.2.2.2.1 w) h (fun s w h => hr s.1 s.2.1.1 s.2.1.2.1 s.2.1.2.2 s.2.2.1.1 s.2.2.1.2.1 s.2.2.1.2.2 s.2.2.2.1 s.2.2.2.2.1 w h)
def F6 (k : Value → W) (capacity_1 : Int) (steps_2p : Option Addr) (steps_2l : Nat) (steps_2c : Nat) : W :=
 Loop [(.int .i64), .slice, .slice, (.int .i64), (.int .i64)] (F6_L1 k) capacity_1 steps_2p steps_2l steps_2c steps_2p steps_2l steps_2c ((steps_2l : Nat) : Int) 0
theorem F6_eq (k : Value → W) (capacity_1 : Int) (steps_2p : Option Addr) (steps_2l : Nat) (steps_2c : Nat) : compF Go.Proofs.Tryd.prog Go.Proofs.Tryd.f6 [(2, [(0, (.int .i64)), (1, .slice), (9, .slice), (10, (.int .i64)), (11, (.int .i64))]), (7, [(0, (.int .i64)), (1, .slice), (9, .slice), (10, (.int .i64)), (11, (.int .i64)), (58, .slice), (59, (.int .i64)), (60, (.int .i64))])] (Go.Proofs.Tryd.f6.body.getD .skip) [.int .i64 capacity_1, .slice steps_2p steps_2l steps_2c] k = F6 k capacity_1 steps_2p steps_2l steps_2c := by kernel_rfl
theorem F6_calls {capacity_1 : Int} {steps_2p : Option Addr} {steps_2l : Nat} {steps_2c : Nat} {w : World} {R : Ending → World → Prop} (h : F6 (fun v w => R (.returned v) w) capacity_1 steps_2p steps_2l steps_2c w) : Calls Go.Proofs.Tryd.prog 6 #[.int .i64 capacity_1, .slice steps_2p steps_2l steps_2c] w R :=
  calls_of_compF noNum follows [(2, [(0, (.int .i64)), (1, .slice), (9, .slice), (10, (.int .i64)), (11, (.int .i64))]), (7, [(0, (.int .i64)), (1, .slice), (9, .slice), (10, (.int .i64)), (11, (.int .i64)), (58, .slice), (59, (.int .i64)), (60, (.int .i64))])] (f := 6) (fn := Go.Proofs.Tryd.f6) (body := Go.Proofs.Tryd.f6.body.getD .skip) (args := [.int .i64 capacity_1, .slice steps_2p steps_2l steps_2c]) rfl rfl (Nat.le_of_ble_eq_true rfl) ((congrFun (F6_eq _ capacity_1 steps_2p steps_2l steps_2c) w).mpr h)
theorem F6_call {capacity_1 : Int} {steps_2p : Option Addr} {steps_2l : Nat} {steps_2c : Nat} {w : World} {g : Fn W (RTy.leaves (.s (.one .bool)))} (h : F6 (fun v => Back (.s (.one .bool)) g (.returned v)) capacity_1 steps_2p steps_2l steps_2c w) : CallT Go.Proofs.Tryd.prog 6 [.int .i64 capacity_1, .slice steps_2p steps_2l steps_2c] (.s (.one .bool)) g w := F6_calls h

/-! ## laws.dcSame$1$1 -/
def F19 (k : Value → W) (x1 : Int) (x2 : Int) (x3 : Int) (x4 : Int) (a5 : Addr) : W :=
 New [.int .i64 x1, .int .i64 x2] 27 fun n6 =>
 New [.int .i64 x3, .int .i64 x4] 27 fun n7 =>
 LoadT (.int .i64) ⟨n6, 1, none⟩ fun x8 =>
 LoadT (.int .i64) ⟨n7, 1, none⟩ fun x9 =>
 BIf (x8 == x9) (
  LoadT (.int .i64) ⟨n6, 0, none⟩ fun x10 =>
  LoadT (.int .i64) a5 fun x11 =>
  LoadT (.int .i64) ⟨n7, 0, none⟩ fun x12 =>
  Bind ((mulI .i64 x10 x11) == x12) fun y13 =>
  k (.bool y13)) (
  k (.bool false))
theorem F19_eq (k : Value → W) (x1 : Int) (x2 : Int) (x3 : Int) (x4 : Int) (a5 : Addr) : compF Go.Proofs.Tryd.prog Go.Proofs.Tryd.f19 [] (Go.Proofs.Tryd.f19.body.getD .skip) [.agg #[.int .i64 x1, .int .i64 x2], .agg #[.int .i64 x3, .int .i64 x4], .pointer (some a5)] k = F19 k x1 x2 x3 x4 a5 := by kernel_rfl
theorem F19_calls {x1 : Int} {x2 : Int} {x3 : Int} {x4 : Int} {a5 : Addr} {w : World} {R : Ending → World → Prop} (h : F19 (fun v w => R (.returned v) w) x1 x2 x3 x4 a5 w) : Calls Go.Proofs.Tryd.prog 19 #[.agg #[.int .i64 x1, .int .i64 x2], .agg #[.int .i64 x3, .int .i64 x4], .pointer (some a5)] w R :=
  calls_of_compF noNum follows [] (f := 19) (fn := Go.Proofs.Tryd.f19) (body := Go.Proofs.Tryd.f19.body.getD .skip) (args := [.agg #[.int .i64 x1, .int .i64 x2], .agg #[.int .i64 x3, .int .i64 x4], .pointer (some a5)]) rfl rfl (Nat.le_of_ble_eq_true rfl) ((congrFun (F19_eq _ x1 x2 x3 x4 a5) w).mpr h)
theorem F19_call {x1 : Int} {x2 : Int} {x3 : Int} {x4 : Int} {a5 : Addr} {w : World} {g : Fn W (RTy.leaves (.s (.one .bool)))} (h : F19 (fun v => Back (.s (.one .bool)) g (.returned v)) x1 x2 x3 x4 a5 w) : CallT Go.Proofs.Tryd.prog 19 [.agg #[.int .i64 x1, .int .i64 x2], .agg #[.int .i64 x3, .int .i64 x4], .pointer (some a5)] (.s (.one .bool)) g w := F19_calls h

/-! ## impl.CAItem] -/
def F18_L1 (k : Value → W) (again9 : Option Addr → Nat → Nat → Value → Option Addr → Nat → Nat → Int → Int → W) (s2_4p : Option Addr) (s2_4l : Nat) (s2_4c : Nat) (eq_5 : Value) (s6p : Option Addr) (s6l : Nat) (s6c : Nat) (x7 : Int) (x8 : Int) : W :=
 BIf (decide (x8 < x7)) (
  NN s6p fun a10 =>
  Req (0 ≤ x8 ∧ x8 < ((s6l : Nat) : Int)) <|
  LoadT (.int .i64) ((a10.add (x8.toNat * 2)).add 0) fun x11 =>
  LoadT (.int .i64) ((a10.add (x8.toNat * 2)).add 1) fun x12 =>
  New [.int .i64 0, .int .i64 0] 27 fun n13 =>
  Store1 ⟨n13, 0, none⟩ (.int .i64 x11) <|
  Store1 ⟨n13, 1, none⟩ (.int .i64 x12) <|
  NN s2_4p fun a14 =>
  Req (0 ≤ x8 ∧ x8 < ((s2_4l : Nat) : Int)) <|
  LoadT (.int .i64) ((a14.add (x8.toNat * 2)).add 0) fun x15 =>
  LoadT (.int .i64) ((a14.add (x8.toNat * 2)).add 1) fun x16 =>
  New [.int .i64 0, .int .i64 0] 27 fun n17 =>
  Store1 ⟨n17, 0, none⟩ (.int .i64 x15) <|
  Store1 ⟨n17, 1, none⟩ (.int .i64 x16) <|
  LoadT (.int .i64) ⟨n13, 0, none⟩ fun x18 =>
  LoadT (.int .i64) ⟨n13, 1, none⟩ fun x19 =>
  LoadT (.int .i64) ⟨n17, 0, none⟩ fun x20 =>
  LoadT (.int .i64) ⟨n17, 1, none⟩ fun x21 =>
  NextT Go.Proofs.Tryd.prog (callV eq_5 [.agg #[.int .i64 x18, .int .i64 x19], .agg #[.int .i64 x20, .int .i64 x21]].toArray) (.s (.one .bool)) fun b22 =>
  BIf (!b22) (
   k (.bool false)) (
   again9 s2_4p s2_4l s2_4c eq_5 s6p s6l s6c x7 (addI .i64 x8 1))) (
  k (.bool true))
theorem F18_L1_rule {k : Value → W} (I : Option Addr → Nat → Nat → Value → Option Addr → Nat → Nat → Int → Int → W) (μ : Option Addr → Nat → Nat → Value → Option Addr → Nat → Nat → Int → Int → World → Nat)
  (hr : ∀ (s2_4p : Option Addr) (s2_4l : Nat) (s2_4c : Nat) (eq_5 : Value) (s6p : Option Addr) (s6l : Nat) (s6c : Nat) (x7 : Int) (x8 : Int) (w : World), I s2_4p s2_4l s2_4c eq_5 s6p s6l s6c x7 x8 w → F18_L1 k (fun s2_4p' s2_4l' s2_4c' eq_5' s6p' s6l' s6c' x7' x8' w' => I s2_4p' s2_4l' s2_4c' eq_5' s6p' s6l' s6c' x7' x8' w' ∧ μ s2_4p' s2_4l' s2_4c' eq_5' s6p' s6l' s6c' x7' x8' w' < μ s2_4p s2_4l s2_4c eq_5 s6p s6l s6c x7 x8 w) s2_4p s2_4l s2_4c eq_5 s6p s6l s6c x7 x8 w)
  {w : World} {s2_4p : Option Addr} {s2_4l : Nat} {s2_4c : Nat} {eq_5 : Value} {s6p : Option Addr} {s6l : Nat} {s6c : Nat} {x7 : Int} {x8 : Int} (h : I s2_4p s2_4l s2_4c eq_5 s6p s6l s6c x7 x8 w) : Loop [.slice, .any, .slice, (.int .i64), (.int .i64)] (F18_L1 k) s2_4p s2_4l s2_4c eq_5 s6p s6l s6c x7 x8 w :=
  Loop_intro (ts := [.slice, .any, .slice, (.int .i64), (.int .i64)]) (s := ((s2_4p, s2_4l, s2_4c), eq_5, (s6p, s6l, s6c), x7, x8, ())) (fun s w => I s.1.1 s.1.2.1 s.1.2.2 s.2.1 s.2.2.1.1 s.2.2.1.2.1 s.2.2.1.2.2 s.2.2.2.1 s.2.2.2.2.1 w) (fun s w => μ s.1.1 s.1.2.1 s.1.2.2 s.2.1 s.2.2.1.1 s.2.2.1.2.1 s.2.2.1.2.2 s.2.2.2.1 s.2.2.2.2.1 w) h (fun s w h => hr s.1.1 s.1.2.1 s.1.2.2 s.2.1 s.2.2.1.1 s.2.2.1.2.1 s.2.2.1.2.2 s.2.2.2.1 s.2.2.2.2.1 w h)
def F18 (k : Value → W) (s1_1p : Option Addr) (s1_1l : Nat) (s1_1c : Nat) (s2_2p : Option Addr) (s2_2l : Nat) (s2_2c : Nat) (eq_3 : Value) : W :=
 BIf (((s1_1l : Nat) : Int) != ((s2_2l : Nat) : Int)) (
  k (.bool false)) (
  Loop [.slice, .any, .slice, (.int .i64), (.int .i64)] (F18_L1 k) s2_2p s2_2l s2_2c eq_3 s1_1p s1_1l s1_1c ((s1_1l : Nat) : Int) 0)
theorem F18_eq (k : Value → W) (s1_1p : Option Addr) (s1_1l : Nat) (s1_1c : Nat) (s2_2p : Option Addr) (s2_2l : Nat) (s2_2c : Nat) (eq_3 : Value) : compF Go.Proofs.Tryd.prog Go.Proofs.Tryd.f18 [(4, [(1, .slice), (2, .any), (15, .slice), (16, (.int .i64)), (17, (.int .i64))])] (Go.Proofs.Tryd.f18.body.getD .skip) [.slice s1_1p s1_1l s1_1c, .slice s2_2p s2_2l s2_2c, eq_3] k = F18 k s1_1p s1_1l s1_1c s2_2p s2_2l s2_2c eq_3 := by kernel_rfl
theorem F18_calls {s1_1p : Option Addr} {s1_1l : Nat} {s1_1c : Nat} {s2_2p : Option Addr} {s2_2l : Nat} {s2_2c : Nat} {eq_3 : Value} {w : World} {R : Ending → World → Prop} (h : F18 (fun v w => R (.returned v) w) s1_1p s1_1l s1_1c s2_2p s2_2l s2_2c eq_3 w) : Calls Go.Proofs.Tryd.prog 18 #[.slice s1_1p s1_1l s1_1c, .slice s2_2p s2_2l s2_2c, eq_3] w R :=
  calls_of_compF noNum follows [(4, [(1, .slice), (2, .any), (15, .slice), (16, (.int .i64)), (17, (.int .i64))])] (f := 18) (fn := Go.Proofs.Tryd.f18) (body := Go.Proofs.Tryd.f18.body.getD .skip) (args := [.slice s1_1p s1_1l s1_1c, .slice s2_2p s2_2l s2_2c, eq_3]) rfl rfl (Nat.le_of_ble_eq_true rfl) ((congrFun (F18_eq _ s1_1p s1_1l s1_1c s2_2p s2_2l s2_2c eq_3) w).mpr h)
theorem F18_call {s1_1p : Option Addr} {s1_1l : Nat} {s1_1c : Nat} {s2_2p : Option Addr} {s2_2l : Nat} {s2_2c : Nat} {eq_3 : Value} {w : World} {g : Fn W (RTy.leaves (.s (.one .bool)))} (h : F18 (fun v => Back (.s (.one .bool)) g (.returned v)) s1_1p s1_1l s1_1c s2_2p s2_2l s2_2c eq_3 w) : CallT Go.Proofs.Tryd.prog 18 [.slice s1_1p s1_1l s1_1c, .slice s2_2p s2_2l s2_2c, eq_3] (.s (.one .bool)) g w := F18_calls h

/-! ## laws.dcSame$1 -/
def F17 (k : Value → W) (s1p : Option Addr) (s1l : Nat) (s1c : Nat) (s2p : Option Addr) (s2l : Nat) (s2c : Nat) (x3 : Int) (s4p : Option Addr) (s4l : Nat) (s4c : Nat) (s5p : Option Addr) (s5l : Nat) (s5c : Nat) (x6 : Int) (a7 : Addr) : W :=
 New [.slice s1p s1l s1c, .slice s2p s2l s2c, .int .i64 x3] 35 fun n8 =>
 New [.slice s4p s4l s4c, .slice s5p s5l s5c, .int .i64 x6] 35 fun n9 =>
 LoadT .slice ⟨n8, 0, none⟩ fun s10p s10l s10c =>
 LoadT .slice ⟨n9, 0, none⟩ fun s11p s11l s11c =>
 CallT Go.Proofs.Tryd.prog 18 [.slice s10p s10l s10c, .slice s11p s11l s11c, .func (.func 19) #[] #[.pointer (some a7)]] (.s (.one .bool)) fun b12 =>
 BIf b12 (
  LoadT .slice ⟨n8, 1, none⟩ fun s13p s13l s13c =>
  LoadT .slice ⟨n9, 1, none⟩ fun s14p s14l s14c =>
  CallT Go.Proofs.Tryd.prog 15 [.slice s13p s13l s13c, .slice s14p s14l s14c] (.s (.one .bool)) fun b15 =>
  BIf b15 (
   LoadT (.int .i64) ⟨n8, 2, none⟩ fun x16 =>
   LoadT (.int .i64) a7 fun x17 =>
   LoadT (.int .i64) ⟨n9, 2, none⟩ fun x18 =>
   Bind ((mulI .i64 x16 x17) == x18) fun y19 =>
   k (.bool y19)) (
   k (.bool false))) (
  k (.bool false))
theorem F17_eq (k : Value → W) (s1p : Option Addr) (s1l : Nat) (s1c : Nat) (s2p : Option Addr) (s2l : Nat) (s2c : Nat) (x3 : Int) (s4p : Option Addr) (s4l : Nat) (s4c : Nat) (s5p : Option Addr) (s5l : Nat) (s5c : Nat) (x6 : Int) (a7 : Addr) : compF Go.Proofs.Tryd.prog Go.Proofs.Tryd.f17 [] (Go.Proofs.Tryd.f17.body.getD .skip) [.agg #[.slice s1p s1l s1c, .slice s2p s2l s2c, .int .i64 x3], .agg #[.slice s4p s4l s4c, .slice s5p s5l s5c, .int .i64 x6], .pointer (some a7)] k = F17 k s1p s1l s1c s2p s2l s2c x3 s4p s4l s4c s5p s5l s5c x6 a7 := by kernel_rfl
theorem F17_calls {s1p : Option Addr} {s1l : Nat} {s1c : Nat} {s2p : Option Addr} {s2l : Nat} {s2c : Nat} {x3 : Int} {s4p : Option Addr} {s4l : Nat} {s4c : Nat} {s5p : Option Addr} {s5l : Nat} {s5c : Nat} {x6 : Int} {a7 : Addr} {w : World} {R : Ending → World → Prop} (h : F17 (fun v w => R (.returned v) w) s1p s1l s1c s2p s2l s2c x3 s4p s4l s4c s5p s5l s5c x6 a7 w) : Calls Go.Proofs.Tryd.prog 17 #[.agg #[.slice s1p s1l s1c, .slice s2p s2l s2c, .int .i64 x3], .agg #[.slice s4p s4l s4c, .slice s5p s5l s5c, .int .i64 x6], .pointer (some a7)] w R :=
  calls_of_compF noNum follows [] (f := 17) (fn := Go.Proofs.Tryd.f17) (body := Go.Proofs.Tryd.f17.body.getD .skip) (args := [.agg #[.slice s1p s1l s1c, .slice s2p s2l s2c, .int .i64 x3], .agg #[.slice s4p s4l s4c, .slice s5p s5l s5c, .int .i64 x6], .pointer (some a7)]) rfl rfl (Nat.le_of_ble_eq_true rfl) ((congrFun (F17_eq _ s1p s1l s1c s2p s2l s2c x3 s4p s4l s4c s5p s5l s5c x6 a7) w).mpr h)
theorem F17_call {s1p : Option Addr} {s1l : Nat} {s1c : Nat} {s2p : Option Addr} {s2l : Nat} {s2c : Nat} {x3 : Int} {s4p : Option Addr} {s4l : Nat} {s4c : Nat} {s5p : Option Addr} {s5l : Nat} {s5c : Nat} {x6 : Int} {a7 : Addr} {w : World} {g : Fn W (RTy.leaves (.s (.one .bool)))} (h : F17 (fun v => Back (.s (.one .bool)) g (.returned v)) s1p s1l s1c s2p s2l s2c x3 s4p s4l s4c s5p s5l s5c x6 a7 w) : CallT Go.Proofs.Tryd.prog 17 [.agg #[.slice s1p s1l s1c, .slice s2p s2l s2c, .int .i64 x3], .agg #[.slice s4p s4l s4c, .slice s5p s5l s5c, .int .i64 x6], .pointer (some a7)] (.s (.one .bool)) g w := F17_calls h

/-! ## impl.CASaid] -/
def F16_L1 (k : Value → W) (again9 : Option Addr → Nat → Nat → Value → Option Addr → Nat → Nat → Int → Int → W) (s2_4p : Option Addr) (s2_4l : Nat) (s2_4c : Nat) (eq_5 : Value) (s6p : Option Addr) (s6l : Nat) (s6c : Nat) (x7 : Int) (x8 : Int) : W :=
 BIf (decide (x8 < x7)) (
  NN s6p fun a10 =>
  Req (0 ≤ x8 ∧ x8 < ((s6l : Nat) : Int)) <|
  LoadT .slice ((a10.add (x8.toNat * 3)).add 0) fun s11p s11l s11c =>
  LoadT .slice ((a10.add (x8.toNat * 3)).add 1) fun s12p s12l s12c =>
  LoadT (.int .i64) ((a10.add (x8.toNat * 3)).add 2) fun x13 =>
  New [.slice none 0 0, .slice none 0 0, .int .i64 0] 35 fun n14 =>
  Store1 ⟨n14, 0, none⟩ (.slice s11p s11l s11c) <|
  Store1 ⟨n14, 1, none⟩ (.slice s12p s12l s12c) <|
  Store1 ⟨n14, 2, none⟩ (.int .i64 x13) <|
  NN s2_4p fun a15 =>
  Req (0 ≤ x8 ∧ x8 < ((s2_4l : Nat) : Int)) <|
  LoadT .slice ((a15.add (x8.toNat * 3)).add 0) fun s16p s16l s16c =>
  LoadT .slice ((a15.add (x8.toNat * 3)).add 1) fun s17p s17l s17c =>
  LoadT (.int .i64) ((a15.add (x8.toNat * 3)).add 2) fun x18 =>
  New [.slice none 0 0, .slice none 0 0, .int .i64 0] 35 fun n19 =>
  Store1 ⟨n19, 0, none⟩ (.slice s16p s16l s16c) <|
  Store1 ⟨n19, 1, none⟩ (.slice s17p s17l s17c) <|
  Store1 ⟨n19, 2, none⟩ (.int .i64 x18) <|
  LoadT .slice ⟨n14, 0, none⟩ fun s20p s20l s20c =>
  LoadT .slice ⟨n14, 1, none⟩ fun s21p s21l s21c =>
  LoadT (.int .i64) ⟨n14, 2, none⟩ fun x22 =>
  LoadT .slice ⟨n19, 0, none⟩ fun s23p s23l s23c =>
  LoadT .slice ⟨n19, 1, none⟩ fun s24p s24l s24c =>
  LoadT (.int .i64) ⟨n19, 2, none⟩ fun x25 =>
  NextT Go.Proofs.Tryd.prog (callV eq_5 [.agg #[.slice s20p s20l s20c, .slice s21p s21l s21c, .int .i64 x22], .agg #[.slice s23p s23l s23c, .slice s24p s24l s24c, .int .i64 x25]].toArray) (.s (.one .bool)) fun b26 =>
  BIf (!b26) (
   k (.bool false)) (
   again9 s2_4p s2_4l s2_4c eq_5 s6p s6l s6c x7 (addI .i64 x8 1))) (
  k (.bool true))
theorem F16_L1_rule {k : Value → W} (I : Option Addr → Nat → Nat → Value → Option Addr → Nat → Nat → Int → Int → W) (μ : Option Addr → Nat → Nat → Value → Option Addr → Nat → Nat → Int → Int → World → Nat)
  (hr : ∀ (s2_4p : Option Addr) (s2_4l : Nat) (s2_4c : Nat) (eq_5 : Value) (s6p : Option Addr) (s6l : Nat) (s6c : Nat) (x7 : Int) (x8 : Int) (w : World), I s2_4p s2_4l s2_4c eq_5 s6p s6l s6c x7 x8 w → F16_L1 k (fun s2_4p' s2_4l' s2_4c' eq_5' s6p' s6l' s6c' x7' x8' w' => I s2_4p' s2_4l' s2_4c' eq_5' s6p' s6l' s6c' x7' x8' w' ∧ μ s2_4p' s2_4l' s2_4c' eq_5' s6p' s6l' s6c' x7' x8' w' < μ s2_4p s2_4l s2_4c eq_5 s6p s6l s6c x7 x8 w) s2_4p s2_4l s2_4c eq_5 s6p s6l s6c x7 x8 w)
  {w : World} {s2_4p : Option Addr} {s2_4l : Nat} {s2_4c : Nat} {eq_5 : Value} {s6p : Option Addr} {s6l : Nat} {s6c : Nat} {x7 : Int} {x8 : Int} (h : I s2_4p s2_4l s2_4c eq_5 s6p s6l s6c x7 x8 w) : Loop [.slice, .any, .slice, (.int .i64), (.int .i64)] (F16_L1 k) s2_4p s2_4l s2_4c eq_5 s6p s6l s6c x7 x8 w :=
  Loop_intro (ts := [.slice, .any, .slice, (.int .i64), (.int .i64)]) (s := ((s2_4p, s2_4l, s2_4c), eq_5, (s6p, s6l, s6c), x7, x8, ())) (fun s w => I s.1.1 s.1.2.1 s.1.2.2 s.2.1 s.2.2.1.1 s.2.2.1.2.1 s.2.2.1.2.2 s.2.2.2.1 s.2.2.2.2.1 w) (fun s w => μ s.1.1 s.1.2.1 s.1.2.2 s.2.1 s.2.2.1.1 s.2.2.1.2.1 s.2.2.1.2.2 s.2.2.2.1 s.2.2.2.2.1 w) h (fun s w h => hr s.1.1 s.1.2.1 s.1.2.2 s.2.1 s.2.2.1.1 s.2.2.1.2.1 s.2.2.1.2.2 s.2.2.2.1 s.2.2.2.2.1 w h)
def F16 (k : Value → W) (s1_1p : Option Addr) (s1_1l : Nat) (s1_1c : Nat) (s2_2p : Option Addr) (s2_2l : Nat) (s2_2c : Nat) (eq_3 : Value) : W :=
 BIf (((s1_1l : Nat) : Int) != ((s2_2l : Nat) : Int)) (
  k (.bool false)) (
  Loop [.slice, .any, .slice, (.int .i64), (.int .i64)] (F16_L1 k) s2_2p s2_2l s2_2c eq_3 s1_1p s1_1l s1_1c ((s1_1l : Nat) : Int) 0)
theorem F16_eq (k : Value → W) (s1_1p : Option Addr) (s1_1l : Nat) (s1_1c : Nat) (s2_2p : Option Addr) (s2_2l : Nat) (s2_2c : Nat) (eq_3 : Value) : compF Go.Proofs.Tryd.prog Go.Proofs.Tryd.f16 [(4, [(1, .slice), (2, .any), (15, .slice), (16, (.int .i64)), (17, (.int .i64))])] (Go.Proofs.Tryd.f16.body.getD .skip) [.slice s1_1p s1_1l s1_1c, .slice s2_2p s2_2l s2_2c, eq_3] k = F16 k s1_1p s1_1l s1_1c s2_2p s2_2l s2_2c eq_3 := by kernel_rfl
theorem F16_calls {s1_1p : Option Addr} {s1_1l : Nat} {s1_1c : Nat} {s2_2p : Option Addr} {s2_2l : Nat} {s2_2c : Nat} {eq_3 : Value} {w : World} {R : Ending → World → Prop} (h : F16 (fun v w => R (.returned v) w) s1_1p s1_1l s1_1c s2_2p s2_2l s2_2c eq_3 w) : Calls Go.Proofs.Tryd.prog 16 #[.slice s1_1p s1_1l s1_1c, .slice s2_2p s2_2l s2_2c, eq_3] w R :=
  calls_of_compF noNum follows [(4, [(1, .slice), (2, .any), (15, .slice), (16, (.int .i64)), (17, (.int .i64))])] (f := 16) (fn := Go.Proofs.Tryd.f16) (body := Go.Proofs.Tryd.f16.body.getD .skip) (args := [.slice s1_1p s1_1l s1_1c, .slice s2_2p s2_2l s2_2c, eq_3]) rfl rfl (Nat.le_of_ble_eq_true rfl) ((congrFun (F16_eq _ s1_1p s1_1l s1_1c s2_2p s2_2l s2_2c eq_3) w).mpr h)
theorem F16_call {s1_1p : Option Addr} {s1_1l : Nat} {s1_1c : Nat} {s2_2p : Option Addr} {s2_2l : Nat} {s2_2c : Nat} {eq_3 : Value} {w : World} {g : Fn W (RTy.leaves (.s (.one .bool)))} (h : F16 (fun v => Back (.s (.one .bool)) g (.returned v)) s1_1p s1_1l s1_1c s2_2p s2_2l s2_2c eq_3 w) : CallT Go.Proofs.Tryd.prog 16 [.slice s1_1p s1_1l s1_1c, .slice s2_2p s2_2l s2_2c, eq_3] (.s (.one .bool)) g w := F16_calls h

/-! ## slices.Equal[[]bool,bool] -/
def F15_L1 (k : Value → W) (again7 : Option Addr → Nat → Nat → Option Addr → Nat → Nat → Int → Int → W) (s1_3p : Option Addr) (s1_3l : Nat) (s1_3c : Nat) (s2_4p : Option Addr) (s2_4l : Nat) (s2_4c : Nat) (x5 : Int) (x6 : Int) : W :=
 BIf (decide (x6 < x5)) (
  Drw <|
  NN s1_3p fun a8 =>
  Req (0 ≤ x6 ∧ x6 < ((s1_3l : Nat) : Int)) <|
  LoadT .bool (a8.add x6.toNat) fun b9 =>
  NN s2_4p fun a10 =>
  Req (0 ≤ x6 ∧ x6 < ((s2_4l : Nat) : Int)) <|
  LoadT .bool (a10.add x6.toNat) fun b11 =>
  BIf (!(b9 == b11)) (
   k (.bool false)) (
   again7 s1_3p s1_3l s1_3c s2_4p s2_4l s2_4c x5 (addI .i64 x6 1))) (
  k (.bool true))
theorem F15_L1_rule {k : Value → W} (I : Option Addr → Nat → Nat → Option Addr → Nat → Nat → Int → Int → W) (μ : Option Addr → Nat → Nat → Option Addr → Nat → Nat → Int → Int → World → Nat)
  (hr : ∀ (s1_3p : Option Addr) (s1_3l : Nat) (s1_3c : Nat) (s2_4p : Option Addr) (s2_4l : Nat) (s2_4c : Nat) (x5 : Int) (x6 : Int) (w : World), I s1_3p s1_3l s1_3c s2_4p s2_4l s2_4c x5 x6 w → F15_L1 k (fun s1_3p' s1_3l' s1_3c' s2_4p' s2_4l' s2_4c' x5' x6' w' => I s1_3p' s1_3l' s1_3c' s2_4p' s2_4l' s2_4c' x5' x6' w' ∧ μ s1_3p' s1_3l' s1_3c' s2_4p' s2_4l' s2_4c' x5' x6' w' < μ s1_3p s1_3l s1_3c s2_4p s2_4l s2_4c x5 x6 w) s1_3p s1_3l s1_3c s2_4p s2_4l s2_4c x5 x6 w)
  {w : World} {s1_3p : Option Addr} {s1_3l : Nat} {s1_3c : Nat} {s2_4p : Option Addr} {s2_4l : Nat} {s2_4c : Nat} {x5 : Int} {x6 : Int} (h : I s1_3p s1_3l s1_3c s2_4p s2_4l s2_4c x5 x6 w) : Loop [.slice, .slice, (.int .i64), (.int .i64)] (F15_L1 k) s1_3p s1_3l s1_3c s2_4p s2_4l s2_4c x5 x6 w :=
  Loop_intro (ts := [.slice, .slice, (.int .i64), (.int .i64)]) (s := ((s1_3p, s1_3l, s1_3c), (s2_4p, s2_4l, s2_4c), x5, x6, ())) (fun s w => I s.1.1 s.1.2.1 s.1.2.2 s.2.1.1 s.2.1.2.1 s.2.1.2.2 s.2.2.1 s.2.2.2.1 w) (fun s w => μ s.1.1 s.1.2.1 s.1.2.2 s.2.1.1 s.2.1.2.1 s.2.1.2.2 s.2.2.1 s.2.2.2.1 w) h (fun s w h => hr s.1.1 s.1.2.1 s.1.2.2 s.2.1.1 s.2.1.2.1 s.2.1.2.2 s.2.2.1 s.2.2.2.1 w h)
def F15 (k : Value → W) (s1_1p : Option Addr) (s1_1l : Nat) (s1_1c : Nat) (s2_2p : Option Addr) (s2_2l : Nat) (s2_2c : Nat) : W :=
 BIf (((s1_1l : Nat) : Int) != ((s2_2l : Nat) : Int)) (
  k (.bool false)) (
  Loop [.slice, .slice, (.int .i64), (.int .i64)] (F15_L1 k) s1_1p s1_1l s1_1c s2_2p s2_2l s2_2c ((s1_1l : Nat) : Int) 0)
theorem F15_eq (k : Value → W) (s1_1p : Option Addr) (s1_1l : Nat) (s1_1c : Nat) (s2_2p : Option Addr) (s2_2l : Nat) (s2_2c : Nat) : compF Go.Proofs.Tryd.prog Go.Proofs.Tryd.f15 [(4, [(0, .slice), (1, .slice), (12, (.int .i64)), (13, (.int .i64))])] (Go.Proofs.Tryd.f15.body.getD .skip) [.slice s1_1p s1_1l s1_1c, .slice s2_2p s2_2l s2_2c] k = F15 k s1_1p s1_1l s1_1c s2_2p s2_2l s2_2c := by kernel_rfl
theorem F15_calls {s1_1p : Option Addr} {s1_1l : Nat} {s1_1c : Nat} {s2_2p : Option Addr} {s2_2l : Nat} {s2_2c : Nat} {w : World} {R : Ending → World → Prop} (h : F15 (fun v w => R (.returned v) w) s1_1p s1_1l s1_1c s2_2p s2_2l s2_2c w) : Calls Go.Proofs.Tryd.prog 15 #[.slice s1_1p s1_1l s1_1c, .slice s2_2p s2_2l s2_2c] w R :=
  calls_of_compF noNum follows [(4, [(0, .slice), (1, .slice), (12, (.int .i64)), (13, (.int .i64))])] (f := 15) (fn := Go.Proofs.Tryd.f15) (body := Go.Proofs.Tryd.f15.body.getD .skip) (args := [.slice s1_1p s1_1l s1_1c, .slice s2_2p s2_2l s2_2c]) rfl rfl (Nat.le_of_ble_eq_true rfl) ((congrFun (F15_eq _ s1_1p s1_1l s1_1c s2_2p s2_2l s2_2c) w).mpr h)
theorem F15_call {s1_1p : Option Addr} {s1_1l : Nat} {s1_1c : Nat} {s2_2p : Option Addr} {s2_2l : Nat} {s2_2c : Nat} {w : World} {g : Fn W (RTy.leaves (.s (.one .bool)))} (h : F15 (fun v => Back (.s (.one .bool)) g (.returned v)) s1_1p s1_1l s1_1c s2_2p s2_2l s2_2c w) : CallT Go.Proofs.Tryd.prog 15 [.slice s1_1p s1_1l s1_1c, .slice s2_2p s2_2l s2_2c] (.s (.one .bool)) g w := F15_calls h

/-! ## laws.dcSame -/
def F9 (k : Value → W) (a_1p : Option Addr) (a_1l : Nat) (a_1c : Nat) (b_2p : Option Addr) (b_2l : Nat) (b_2c : Nat) (times_3 : Int) : W :=
 New [.int .i64 times_3] 3 fun n4 =>
 CallT Go.Proofs.Tryd.prog 16 [.slice a_1p a_1l a_1c, .slice b_2p b_2l b_2c, .func (.func 17) #[] #[.pointer (some ⟨n4, 0, none⟩)]] (.s (.one .bool)) fun b5 =>
 k (.bool b5)
theorem F9_eq (k : Value → W) (a_1p : Option Addr) (a_1l : Nat) (a_1c : Nat) (b_2p : Option Addr) (b_2l : Nat) (b_2c : Nat) (times_3 : Int) : compF Go.Proofs.Tryd.prog Go.Proofs.Tryd.f9 [] (Go.Proofs.Tryd.f9.body.getD .skip) [.slice a_1p a_1l a_1c, .slice b_2p b_2l b_2c, .int .i64 times_3] k = F9 k a_1p a_1l a_1c b_2p b_2l b_2c times_3 := by kernel_rfl
theorem F9_calls {a_1p : Option Addr} {a_1l : Nat} {a_1c : Nat} {b_2p : Option Addr} {b_2l : Nat} {b_2c : Nat} {times_3 : Int} {w : World} {R : Ending → World → Prop} (h : F9 (fun v w => R (.returned v) w) a_1p a_1l a_1c b_2p b_2l b_2c times_3 w) : Calls Go.Proofs.Tryd.prog 9 #[.slice a_1p a_1l a_1c, .slice b_2p b_2l b_2c, .int .i64 times_3] w R :=
  calls_of_compF noNum follows [] (f := 9) (fn := Go.Proofs.Tryd.f9) (body := Go.Proofs.Tryd.f9.body.getD .skip) (args := [.slice a_1p a_1l a_1c, .slice b_2p b_2l b_2c, .int .i64 times_3]) rfl rfl (Nat.le_of_ble_eq_true rfl) ((congrFun (F9_eq _ a_1p a_1l a_1c b_2p b_2l b_2c times_3) w).mpr h)
theorem F9_call {a_1p : Option Addr} {a_1l : Nat} {a_1c : Nat} {b_2p : Option Addr} {b_2l : Nat} {b_2c : Nat} {times_3 : Int} {w : World} {g : Fn W (RTy.leaves (.s (.one .bool)))} (h : F9 (fun v => Back (.s (.one .bool)) g (.returned v)) a_1p a_1l a_1c b_2p b_2l b_2c times_3 w) : CallT Go.Proofs.Tryd.prog 9 [.slice a_1p a_1l a_1c, .slice b_2p b_2l b_2c, .int .i64 times_3] (.s (.one .bool)) g w := F9_calls h

/-! ## laws.FnCAAgain -/
def F3_J1 (k : Value → W) (again14 : Int → Int → Option Addr → Nat → Nat → Option Addr → Nat → Nat → Option Addr → Nat → Nat → Option Addr → Nat → Nat → Int → Int → W) (capacity_39 : Int) (policy_40 : Int) (steps_41p : Option Addr) (steps_41l : Nat) (steps_41c : Nat) (others_42p : Option Addr) (others_42l : Nat) (others_42c : Nat) (at_43p : Option Addr) (at_43l : Nat) (at_43c : Nat) (s44p : Option Addr) (s44l : Nat) (s44c : Nat) (x45 : Int) (x46 : Int) : W :=
 RawT Go.Proofs.Tryd.prog (Instr.buildSlice 25 1 [(0, .int .i64 (subI .i64 ((others_42l : Nat) : Int) 1))].toArray) (.s (.one .slice)) fun s47p s47l s47c =>
 NextT Go.Proofs.Tryd.prog (builtin .append #[25, 25] 25 [false, false].toArray [.slice at_43p at_43l at_43c, .slice s47p s47l s47c].toArray) (.s (.one .slice)) fun s48p s48l s48c =>
 again14 capacity_39 policy_40 steps_41p steps_41l steps_41c others_42p others_42l others_42c s48p s48l s48c s44p s44l s44c x45 (addI .i64 x46 1)
def F3_L2 (k : Value → W) (again58 : Option Addr → Nat → Nat → Option Addr → Nat → Nat → Option Addr → Nat → Nat → Option Addr → Nat → Nat → Int → Int → W) (a_52p : Option Addr) (a_52l : Nat) (a_52c : Nat) (b_53p : Option Addr) (b_53l : Nat) (b_53c : Nat) (c_54p : Option Addr) (c_54l : Nat) (c_54c : Nat) (s55p : Option Addr) (s55l : Nat) (s55c : Nat) (x56 : Int) (x57 : Int) : W :=
 BIf (decide (x57 < x56)) (
  NN s55p fun a59 =>
  Req (0 ≤ x57 ∧ x57 < ((s55l : Nat) : Int)) <|
  LoadT (.int .i64) (a59.add x57.toNat) fun x60 =>
  NN b_53p fun a61 =>
  Req (0 ≤ x60 ∧ x60 < ((b_53l : Nat) : Int)) <|
  LoadT .slice ((a61.add (x60.toNat * 3)).add 0) fun s62p s62l s62c =>
  LoadT .slice ((a61.add (x60.toNat * 3)).add 1) fun s63p s63l s63c =>
  LoadT (.int .i64) ((a61.add (x60.toNat * 3)).add 2) fun x64 =>
  RawT Go.Proofs.Tryd.prog (Instr.buildSlice 30 1 [(0, .agg #[.slice s62p s62l s62c, .slice s63p s63l s63c, .int .i64 x64])].toArray) (.s (.one .slice)) fun s65p s65l s65c =>
  NextT Go.Proofs.Tryd.prog (builtin .append #[30, 30] 30 [false, false].toArray [.slice c_54p c_54l c_54c, .slice s65p s65l s65c].toArray) (.s (.one .slice)) fun s66p s66l s66c =>
  again58 a_52p a_52l a_52c b_53p b_53l b_53c s66p s66l s66c s55p s55l s55c x56 (addI .i64 x57 1)) (
  CallT Go.Proofs.Tryd.prog 8 [] (.s (.one .bool)) fun b67 =>
  BIf b67 (
   CallT Go.Proofs.Tryd.prog 9 [.slice a_52p a_52l a_52c, .slice c_54p c_54l c_54c, .int .i64 1] (.s (.one .bool)) fun b68 =>
   k (.bool b68)) (
   k (.bool false)))
theorem F3_L2_rule {k : Value → W} (I : Option Addr → Nat → Nat → Option Addr → Nat → Nat → Option Addr → Nat → Nat → Option Addr → Nat → Nat → Int → Int → W) (μ : Option Addr → Nat → Nat → Option Addr → Nat → Nat → Option Addr → Nat → Nat → Option Addr → Nat → Nat → Int → Int → World → Nat)
  (hr : ∀ (a_52p : Option Addr) (a_52l : Nat) (a_52c : Nat) (b_53p : Option Addr) (b_53l : Nat) (b_53c : Nat) (c_54p : Option Addr) (c_54l : Nat) (c_54c : Nat) (s55p : Option Addr) (s55l : Nat) (s55c : Nat) (x56 : Int) (x57 : Int) (w : World), I a_52p a_52l a_52c b_53p b_53l b_53c c_54p c_54l c_54c s55p s55l s55c x56 x57 w → F3_L2 k (fun a_52p' a_52l' a_52c' b_53p' b_53l' b_53c' c_54p' c_54l' c_54c' s55p' s55l' s55c' x56' x57' w' => I a_52p' a_52l' a_52c' b_53p' b_53l' b_53c' c_54p' c_54l' c_54c' s55p' s55l' s55c' x56' x57' w' ∧ μ a_52p' a_52l' a_52c' b_53p' b_53l' b_53c' c_54p' c_54l' c_54c' s55p' s55l' s55c' x56' x57' w' < μ a_52p a_52l a_52c b_53p b_53l b_53c c_54p c_54l c_54c s55p s55l s55c x56 x57 w) a_52p a_52l a_52c b_53p b_53l b_53c c_54p c_54l c_54c s55p s55l s55c x56 x57 w)
  {w : World} {a_52p : Option Addr} {a_52l : Nat} {a_52c : Nat} {b_53p : Option Addr} {b_53l : Nat} {b_53c : Nat} {c_54p : Option Addr} {c_54l : Nat} {c_54c : Nat} {s55p : Option Addr} {s55l : Nat} {s55c : Nat} {x56 : Int} {x57 : Int} (h : I a_52p a_52l a_52c b_53p b_53l b_53c c_54p c_54l c_54c s55p s55l s55c x56 x57 w) : Loop [.slice, .slice, .slice, .slice, (.int .i64), (.int .i64)] (F3_L2 k) a_52p a_52l a_52c b_53p b_53l b_53c c_54p c_54l c_54c s55p s55l s55c x56 x57 w :=
  Loop_intro (ts := [.slice, .slice, .slice, .slice, (.int .i64), (.int .i64)]) (s := ((a_52p, a_52l, a_52c), (b_53p, b_53l, b_53c), (c_54p, c_54l, c_54c), (s55p, s55l, s55c), x56, x57, ())) (fun s w => I s.1.1 s.1.2.1 s.1.2.2 s.2.1.1 s.2.1.2.1 s.2.1.2.2 s.2.2.1.1 s.2.2.1.2.1 s.2.2.1.2.2 s.2.2.2.1.1 s.2.2.2.1.2.1 s.2.2.2.1.2.2 s.2.2.2.2.1 s.2.2.2.2.2.1 w) (fun s w => μ s.1.1 s.1.2.1 s.1.2.2 s.2.1.1 s.2.1.2.1 s.2.1.2.2 s.2.2.1.1 s.2.2.1.2.1 s.2.2.1.2.2 s.2.2.2.1.1 s.2.2.2.1.2.1 s.2.2.2.1.2.2 s.2.2.2.2.1 s.2.2.2.2.2.1 w) h (fun s w h => hr s.1.1 s.1.2.1 s.1.2.2 s.2.1.1 s.2.1.2.1 s.2.1.2.2 s.2.2.1.1 s.2.2.1.2.1 s.2.2.1.2.2 s.2.2.2.1.1 s.2.2.2.1.2.1 s.2.2.2.1.2.2 s.2.2.2.2.1 s.2.2.2.2.2.1 w h)
def F3_L1 (k : Value → W) (again14 : Int → Int → Option Addr → Nat → Nat → Option Addr → Nat → Nat → Option Addr → Nat → Nat → Option Addr → Nat → Nat → Int → Int → W) (capacity_6 : Int) (policy_7 : Int) (steps_8p : Option Addr) (steps_8l : Nat) (steps_8c : Nat) (others_9p : Option Addr) (others_9l : Nat) (others_9c : Nat) (at_10p : Option Addr) (at_10l : Nat) (at_10c : Nat) (s11p : Option Addr) (s11l : Nat) (s11c : Nat) (x12 : Int) (x13 : Int) : W :=
 BIf (decide (x13 < x12)) (
  NN s11p fun a15 =>
  Req (0 ≤ x13 ∧ x13 < ((s11l : Nat) : Int)) <|
  LoadT (.int .i64) ((a15.add (x13.toNat * 5)).add 0) fun x16 =>
  LoadT (.int .i64) ((a15.add (x13.toNat * 5)).add 1) fun x17 =>
  LoadT (.int .i64) ((a15.add (x13.toNat * 5)).add 2) fun x18 =>
  LoadT (.int .i64) ((a15.add (x13.toNat * 5)).add 3) fun x19 =>
  LoadT .slice ((a15.add (x13.toNat * 5)).add 4) fun s20p s20l s20c =>
  New [.int .i64 0, .int .i64 0, .int .i64 0, .int .i64 0, .slice none 0 0] 29 fun n21 =>
  Store1 ⟨n21, 0, none⟩ (.int .i64 x16) <|
  Store1 ⟨n21, 1, none⟩ (.int .i64 x17) <|
  Store1 ⟨n21, 2, none⟩ (.int .i64 x18) <|
  Store1 ⟨n21, 3, none⟩ (.int .i64 x19) <|
  Store1 ⟨n21, 4, none⟩ (.slice s20p s20l s20c) <|
  LoadT (.int .i64) ⟨n21, 0, none⟩ fun x22 =>
  LoadT (.int .i64) ⟨n21, 1, none⟩ fun x23 =>
  LoadT (.int .i64) ⟨n21, 2, none⟩ fun x24 =>
  LoadT (.int .i64) ⟨n21, 3, none⟩ fun x25 =>
  LoadT .slice ⟨n21, 4, none⟩ fun s26p s26l s26c =>
  RawT Go.Proofs.Tryd.prog (Instr.buildSlice 22 1 [(0, .agg #[.int .i64 x22, .int .i64 x23, .int .i64 x24, .int .i64 x25, .slice s26p s26l s26c])].toArray) (.s (.one .slice)) fun s27p s27l s27c =>
  NextT Go.Proofs.Tryd.prog (builtin .append #[22, 22] 22 [false, false].toArray [.slice others_9p others_9l others_9c, .slice s27p s27l s27c].toArray) (.s (.one .slice)) fun s28p s28l s28c =>
  LoadT (.int .i64) ⟨n21, 0, none⟩ fun x29 =>
  BIf (x29 == 1) (
   LoadT (.int .i64) ⟨n21, 1, none⟩ fun x30 =>
   RawT Go.Proofs.Tryd.prog (Instr.buildSlice 25 1 [(0, .int .i64 x30)].toArray) (.s (.one .slice)) fun s31p s31l s31c =>
   LoadT (.int .i64) ⟨n21, 0, none⟩ fun x32 =>
   LoadT (.int .i64) ⟨n21, 1, none⟩ fun x33 =>
   LoadT (.int .i64) ⟨n21, 2, none⟩ fun x34 =>
   LoadT (.int .i64) ⟨n21, 3, none⟩ fun x35 =>
   LoadT .slice ⟨n21, 4, none⟩ fun s36p s36l s36c =>
   RawT Go.Proofs.Tryd.prog (Instr.buildSlice 22 2 [(0, .agg #[.int .i64 3, .int .i64 0, .int .i64 0, .int .i64 0, .slice s31p s31l s31c]), (1, .agg #[.int .i64 x32, .int .i64 x33, .int .i64 x34, .int .i64 x35, .slice s36p s36l s36c])].toArray) (.s (.one .slice)) fun s37p s37l s37c =>
   NextT Go.Proofs.Tryd.prog (builtin .append #[22, 22] 22 [false, false].toArray [.slice s28p s28l s28c, .slice s37p s37l s37c].toArray) (.s (.one .slice)) fun s38p s38l s38c =>
   F3_J1 k again14 capacity_6 policy_7 steps_8p steps_8l steps_8c s38p s38l s38c at_10p at_10l at_10c s11p s11l s11c x12 x13) (
   F3_J1 k again14 capacity_6 policy_7 steps_8p steps_8l steps_8c s28p s28l s28c at_10p at_10l at_10c s11p s11l s11c x12 x13)) (
  Req (3 ≠ (0 : Int)) <|
  Bind (remI (IntKind.wrap .i64 policy_7) 3 : Int) fun p_49 =>
  CallT Go.Proofs.Tryd.prog 7 [.int .i64 capacity_6, .int .i64 p_49, .slice steps_8p steps_8l steps_8c] (.s (.one .slice)) fun s50p s50l s50c =>
  CallT Go.Proofs.Tryd.prog 7 [.int .i64 capacity_6, .int .i64 p_49, .slice others_9p others_9l others_9c] (.s (.one .slice)) fun s51p s51l s51c =>
  BIf (((s51l : Nat) : Int) != ((others_9l : Nat) : Int)) (
   k (.bool false)) (
   Loop [.slice, .slice, .slice, .slice, (.int .i64), (.int .i64)] (F3_L2 k) s50p s50l s50c s51p s51l s51c none 0 0 at_10p at_10l at_10c ((at_10l : Nat) : Int) 0))
theorem F3_L1_rule {k : Value → W} (I : Int → Int → Option Addr → Nat → Nat → Option Addr → Nat → Nat → Option Addr → Nat → Nat → Option Addr → Nat → Nat → Int → Int → W) (μ : Int → Int → Option Addr → Nat → Nat → Option Addr → Nat → Nat → Option Addr → Nat → Nat → Option Addr → Nat → Nat → Int → Int → World → Nat)
  (hr : ∀ (capacity_6 : Int) (policy_7 : Int) (steps_8p : Option Addr) (steps_8l : Nat) (steps_8c : Nat) (others_9p : Option Addr) (others_9l : Nat) (others_9c : Nat) (at_10p : Option Addr) (at_10l : Nat) (at_10c : Nat) (s11p : Option Addr) (s11l : Nat) (s11c : Nat) (x12 : Int) (x13 : Int) (w : World), I capacity_6 policy_7 steps_8p steps_8l steps_8c others_9p others_9l others_9c at_10p at_10l at_10c s11p s11l s11c x12 x13 w → F3_L1 k (fun capacity_6' policy_7' steps_8p' steps_8l' steps_8c' others_9p' others_9l' others_9c' at_10p' at_10l' at_10c' s11p' s11l' s11c' x12' x13' w' => I capacity_6' policy_7' steps_8p' steps_8l' steps_8c' others_9p' others_9l' others_9c' at_10p' at_10l' at_10c' s11p' s11l' s11c' x12' x13' w' ∧ μ capacity_6' policy_7' steps_8p' steps_8l' steps_8c' others_9p' others_9l' others_9c' at_10p' at_10l' at_10c' s11p' s11l' s11c' x12' x13' w' < μ capacity_6 policy_7 steps_8p steps_8l steps_8c others_9p others_9l others_9c at_10p at_10l at_10c s11p s11l s11c x12 x13 w) capacity_6 policy_7 steps_8p steps_8l steps_8c others_9p others_9l others_9c at_10p at_10l at_10c s11p s11l s11c x12 x13 w)
  {w : World} {capacity_6 : Int} {policy_7 : Int} {steps_8p : Option Addr} {steps_8l : Nat} {steps_8c : Nat} {others_9p : Option Addr} {others_9l : Nat} {others_9c : Nat} {at_10p : Option Addr} {at_10l : Nat} {at_10c : Nat} {s11p : Option Addr} {s11l : Nat} {s11c : Nat} {x12 : Int} {x13 : Int} (h : I capacity_6 policy_7 steps_8p steps_8l steps_8c others_9p others_9l others_9c at_10p at_10l at_10c s11p s11l s11c x12 x13 w) : Loop [(.int .i64), (.int .u8), .slice, .slice, .slice, .slice, (.int .i64), (.int .i64)] (F3_L1 k) capacity_6 policy_7 steps_8p steps_8l steps_8c others_9p others_9l others_9c at_10p at_10l at_10c s11p s11l s11c x12 x13 w :=
  Loop_intro (ts := [(.int .i64), (.int .u8), .slice, .slice, .slice, .slice, (.int .i64), (.int .i64)]) (s := (capacity_6, policy_7, (steps_8p, steps_8l, steps_8c), (others_9p, others_9l, others_9c), (at_10p, at_10l, at_10c), (s11p, s11l, s11c), x12, x13, ())) (fun s w => I s.1 s.2.1 s.2.2.1.1 s.2.2.1.2.1 s.2.2.1.2.2 s.2.2.2.1.1 s.2.2.2.1.2.1 s.2.2.2.1.2.2 s.2.2.2.2.1.1 s.2.2.2.2.1.2.1 s.2.2.2.2.1.2.2 s.2.2.2.2.2.1.1 s.2.2.2.2.2.1.2.1 s.2.2.2.2.2.1.2.2 s.2.2.2.2.2.2.1 s.2.2.2.2.2.2.2.1 w) (fun s w => μ s.1 s.2.1 s.2.2.1.1 s.2.2.1.2.1 s.2.2.1.2.2 s.2.2.2.1.1 s.2.2.2.1.2.1 s.2.2.2.1.2.2 s.2.2.2.2.1.1 s.2.2.2.2.1.2.1 s.2.2.2.2.1.2.2 s.2.2.2.2.2.1.1 s.2.2.2.2.2.1.2.1 s.2.2.2.2.2.1.2.2 s.2.2.2.2.2.2.1 s.2.2.2.2.2.2.2.1 w) h (fun s w h => hr s.1 s.2.1 s.2.2.1.1 s.2.2.1.2.1 s.2.2.1.2.2 s.2.2.2.1.1 s.2.2.2.1.2.1 s.2.2.2.1.2.2 s.2.2.2.2.1.1 s.2.2.2.2.1.2.1 s.2.2.2.2.1.2.2 s.2.2.2.2.2.1.1 s.2.2.2.2.2.1.2.1 s.2.2.2.2.2.1.2.2 s.2.2.2.2.2.2.1 s.2.2.2.2.2.2.2.1 w h)
def F3 (k : Value → W) (capacity_1 : Int) (policy_2 : Int) (steps_3p : Option Addr) (steps_3l : Nat) (steps_3c : Nat) : W :=
 CallT Go.Proofs.Tryd.prog 5 [.slice steps_3p steps_3l steps_3c] (.s (.one .bool)) fun b4 =>
 BIf (!b4) (
  k (.bool true)) (
  CallT Go.Proofs.Tryd.prog 6 [.int .i64 capacity_1, .slice steps_3p steps_3l steps_3c] (.s (.one .bool)) fun b5 =>
  BIf (!b5) (
   k (.bool true)) (
   Loop [(.int .i64), (.int .u8), .slice, .slice, .slice, .slice, (.int .i64), (.int .i64)] (F3_L1 k) capacity_1 policy_2 steps_3p steps_3l steps_3c none 0 0 none 0 0 steps_3p steps_3l steps_3c ((steps_3l : Nat) : Int) 0))
theorem F3_eq (k : Value → W) (capacity_1 : Int) (policy_2 : Int) (steps_3p : Option Addr) (steps_3l : Nat) (steps_3c : Nat) : compF Go.Proofs.Tryd.prog Go.Proofs.Tryd.f3 [(8, [(0, (.int .i64)), (1, (.int .u8)), (2, .slice), (7, .slice), (8, .slice), (24, .slice), (25, (.int .i64)), (26, (.int .i64))]), (21, [(12, .slice), (13, .slice), (14, .slice), (68, .slice), (69, (.int .i64)), (70, (.int .i64))])] (Go.Proofs.Tryd.f3.body.getD .skip) [.int .i64 capacity_1, .int .u8 policy_2, .slice steps_3p steps_3l steps_3c] k = F3 k capacity_1 policy_2 steps_3p steps_3l steps_3c := by kernel_rfl
theorem F3_calls {capacity_1 : Int} {policy_2 : Int} {steps_3p : Option Addr} {steps_3l : Nat} {steps_3c : Nat} {w : World} {R : Ending → World → Prop} (h : F3 (fun v w => R (.returned v) w) capacity_1 policy_2 steps_3p steps_3l steps_3c w) : Calls Go.Proofs.Tryd.prog 3 #[.int .i64 capacity_1, .int .u8 policy_2, .slice steps_3p steps_3l steps_3c] w R :=
  calls_of_compF noNum follows [(8, [(0, (.int .i64)), (1, (.int .u8)), (2, .slice), (7, .slice), (8, .slice), (24, .slice), (25, (.int .i64)), (26, (.int .i64))]), (21, [(12, .slice), (13, .slice), (14, .slice), (68, .slice), (69, (.int .i64)), (70, (.int .i64))])] (f := 3) (fn := Go.Proofs.Tryd.f3) (body := Go.Proofs.Tryd.f3.body.getD .skip) (args := [.int .i64 capacity_1, .int .u8 policy_2, .slice steps_3p steps_3l steps_3c]) rfl rfl (Nat.le_of_ble_eq_true rfl) ((congrFun (F3_eq _ capacity_1 policy_2 steps_3p steps_3l steps_3c) w).mpr h)
theorem F3_call {capacity_1 : Int} {policy_2 : Int} {steps_3p : Option Addr} {steps_3l : Nat} {steps_3c : Nat} {w : World} {g : Fn W (RTy.leaves (.s (.one .bool)))} (h : F3 (fun v => Back (.s (.one .bool)) g (.returned v)) capacity_1 policy_2 steps_3p steps_3l steps_3c w) : CallT Go.Proofs.Tryd.prog 3 [.int .i64 capacity_1, .int .u8 policy_2, .slice steps_3p steps_3l steps_3c] (.s (.one .bool)) g w := F3_calls h

/-! ## laws.FnCAScaled -/
def F4_J1 (k : Value → W) (again16 : Int → Int → Option Addr → Nat → Nat → Int → Option Addr → Nat → Nat → Option Addr → Nat → Nat → Int → Int → W) (capacity_26 : Int) (policy_27 : Int) (steps_28p : Option Addr) (steps_28l : Nat) (steps_28c : Nat) (n_29 : Int) (others_30p : Option Addr) (others_30l : Nat) (others_30c : Nat) (s_31 : Addr) (s32p : Option Addr) (s32l : Nat) (s32c : Nat) (x33 : Int) (x34 : Int) : W :=
 LoadT (.int .i64) (s_31.add 0) fun x35 =>
 LoadT (.int .i64) (s_31.add 1) fun x36 =>
 LoadT (.int .i64) (s_31.add 2) fun x37 =>
 LoadT (.int .i64) (s_31.add 3) fun x38 =>
 LoadT .slice (s_31.add 4) fun s39p s39l s39c =>
 RawT Go.Proofs.Tryd.prog (Instr.buildSlice 22 1 [(0, .agg #[.int .i64 x35, .int .i64 x36, .int .i64 x37, .int .i64 x38, .slice s39p s39l s39c])].toArray) (.s (.one .slice)) fun s40p s40l s40c =>
 NextT Go.Proofs.Tryd.prog (builtin .append #[22, 22] 22 [false, false].toArray [.slice others_30p others_30l others_30c, .slice s40p s40l s40c].toArray) (.s (.one .slice)) fun s41p s41l s41c =>
 again16 capacity_26 policy_27 steps_28p steps_28l steps_28c n_29 s41p s41l s41c s32p s32l s32c x33 (addI .i64 x34 1)
def F4_L1 (k : Value → W) (again16 : Int → Int → Option Addr → Nat → Nat → Int → Option Addr → Nat → Nat → Option Addr → Nat → Nat → Int → Int → W) (capacity_8 : Int) (policy_9 : Int) (steps_10p : Option Addr) (steps_10l : Nat) (steps_10c : Nat) (n_11 : Int) (others_12p : Option Addr) (others_12l : Nat) (others_12c : Nat) (s13p : Option Addr) (s13l : Nat) (s13c : Nat) (x14 : Int) (x15 : Int) : W :=
 BIf (decide (x15 < x14)) (
  NN s13p fun a17 =>
  Req (0 ≤ x15 ∧ x15 < ((s13l : Nat) : Int)) <|
  LoadT (.int .i64) ((a17.add (x15.toNat * 5)).add 0) fun x18 =>
  LoadT (.int .i64) ((a17.add (x15.toNat * 5)).add 1) fun x19 =>
  LoadT (.int .i64) ((a17.add (x15.toNat * 5)).add 2) fun x20 =>
  LoadT (.int .i64) ((a17.add (x15.toNat * 5)).add 3) fun x21 =>
  LoadT .slice ((a17.add (x15.toNat * 5)).add 4) fun s22p s22l s22c =>
  New [.int .i64 0, .int .i64 0, .int .i64 0, .int .i64 0, .slice none 0 0] 29 fun n23 =>
  Store1 ⟨n23, 0, none⟩ (.int .i64 x18) <|
  Store1 ⟨n23, 1, none⟩ (.int .i64 x19) <|
  Store1 ⟨n23, 2, none⟩ (.int .i64 x20) <|
  Store1 ⟨n23, 3, none⟩ (.int .i64 x21) <|
  Store1 ⟨n23, 4, none⟩ (.slice s22p s22l s22c) <|
  LoadT (.int .i64) ⟨n23, 0, none⟩ fun x24 =>
  BIf (x24 == 1) (
   LoadT (.int .i64) ⟨n23, 2, none⟩ fun x25 =>
   Store1 ⟨n23, 2, none⟩ (.int .i64 (mulI .i64 x25 n_11)) <|
   F4_J1 k again16 capacity_8 policy_9 steps_10p steps_10l steps_10c n_11 others_12p others_12l others_12c ⟨n23, 0, none⟩ s13p s13l s13c x14 x15) (
   F4_J1 k again16 capacity_8 policy_9 steps_10p steps_10l steps_10c n_11 others_12p others_12l others_12c ⟨n23, 0, none⟩ s13p s13l s13c x14 x15)) (
  Req (3 ≠ (0 : Int)) <|
  Bind (remI (IntKind.wrap .i64 policy_9) 3 : Int) fun p_42 =>
  CallT Go.Proofs.Tryd.prog 8 [] (.s (.one .bool)) fun b43 =>
  BIf b43 (
   CallT Go.Proofs.Tryd.prog 7 [.int .i64 capacity_8, .int .i64 p_42, .slice steps_10p steps_10l steps_10c] (.s (.one .slice)) fun s44p s44l s44c =>
   CallT Go.Proofs.Tryd.prog 7 [.int .i64 (mulI .i64 capacity_8 n_11), .int .i64 p_42, .slice others_12p others_12l others_12c] (.s (.one .slice)) fun s45p s45l s45c =>
   CallT Go.Proofs.Tryd.prog 9 [.slice s44p s44l s44c, .slice s45p s45l s45c, .int .i64 n_11] (.s (.one .bool)) fun b46 =>
   k (.bool b46)) (
   k (.bool false)))
theorem F4_L1_rule {k : Value → W} (I : Int → Int → Option Addr → Nat → Nat → Int → Option Addr → Nat → Nat → Option Addr → Nat → Nat → Int → Int → W) (μ : Int → Int → Option Addr → Nat → Nat → Int → Option Addr → Nat → Nat → Option Addr → Nat → Nat → Int → Int → World → Nat)
  (hr : ∀ (capacity_8 : Int) (policy_9 : Int) (steps_10p : Option Addr) (steps_10l : Nat) (steps_10c : Nat) (n_11 : Int) (others_12p : Option Addr) (others_12l : Nat) (others_12c : Nat) (s13p : Option Addr) (s13l : Nat) (s13c : Nat) (x14 : Int) (x15 : Int) (w : World), I capacity_8 policy_9 steps_10p steps_10l steps_10c n_11 others_12p others_12l others_12c s13p s13l s13c x14 x15 w → F4_L1 k (fun capacity_8' policy_9' steps_10p' steps_10l' steps_10c' n_11' others_12p' others_12l' others_12c' s13p' s13l' s13c' x14' x15' w' => I capacity_8' policy_9' steps_10p' steps_10l' steps_10c' n_11' others_12p' others_12l' others_12c' s13p' s13l' s13c' x14' x15' w' ∧ μ capacity_8' policy_9' steps_10p' steps_10l' steps_10c' n_11' others_12p' others_12l' others_12c' s13p' s13l' s13c' x14' x15' w' < μ capacity_8 policy_9 steps_10p steps_10l steps_10c n_11 others_12p others_12l others_12c s13p s13l s13c x14 x15 w) capacity_8 policy_9 steps_10p steps_10l steps_10c n_11 others_12p others_12l others_12c s13p s13l s13c x14 x15 w)
  {w : World} {capacity_8 : Int} {policy_9 : Int} {steps_10p : Option Addr} {steps_10l : Nat} {steps_10c : Nat} {n_11 : Int} {others_12p : Option Addr} {others_12l : Nat} {others_12c : Nat} {s13p : Option Addr} {s13l : Nat} {s13c : Nat} {x14 : Int} {x15 : Int} (h : I capacity_8 policy_9 steps_10p steps_10l steps_10c n_11 others_12p others_12l others_12c s13p s13l s13c x14 x15 w) : Loop [(.int .i64), (.int .u8), .slice, (.int .i64), .slice, .slice, (.int .i64), (.int .i64)] (F4_L1 k) capacity_8 policy_9 steps_10p steps_10l steps_10c n_11 others_12p others_12l others_12c s13p s13l s13c x14 x15 w :=
  Loop_intro (ts := [(.int .i64), (.int .u8), .slice, (.int .i64), .slice, .slice, (.int .i64), (.int .i64)]) (s := (capacity_8, policy_9, (steps_10p, steps_10l, steps_10c), n_11, (others_12p, others_12l, others_12c), (s13p, s13l, s13c), x14, x15, ())) (fun s w => I s.1 s.2.1 s.2.2.1.1 s.2.2.1.2.1 s.2.2.1.2.2 s.2.2.2.1 s.2.2.2.2.1.1 s.2.2.2.2.1.2.1 s.2.2.2.2.1.2.2 s.2.2.2.2.2.1.1 s.2.2.2.2.2.1.2.1 s.2.2.2.2.2.1.2.2 s.2.2.2.2.2.2.1 s.2.2.2.2.2.2.2.1 w) (fun s w => μ s.1 s.2.1 s.2.2.1.1 s.2.2.1.2.1 s.2.2.1.2.2 s.2.2.2.1 s.2.2.2.2.1.1 s.2.2.2.2.1.2.1 s.2.2.2.2.1.2.2 s.2.2.2.2.2.1.1 s.2.2.2.2.2.1.2.1 s.2.2.2.2.2.1.2.2 s.2.2.2.2.2.2.1 s.2.2.2.2.2.2.2.1 w) h (fun s w h => hr s.1 s.2.1 s.2.2.1.1 s.2.2.1.2.1 s.2.2.1.2.2 s.2.2.2.1 s.2.2.2.2.1.1 s.2.2.2.2.1.2.1 s.2.2.2.2.1.2.2 s.2.2.2.2.2.1.1 s.2.2.2.2.2.1.2.1 s.2.2.2.2.2.1.2.2 s.2.2.2.2.2.2.1 s.2.2.2.2.2.2.2.1 w h)
def F4 (k : Value → W) (capacity_1 : Int) (policy_2 : Int) (steps_3p : Option Addr) (steps_3l : Nat) (steps_3c : Nat) (times_4 : Int) : W :=
 CallT Go.Proofs.Tryd.prog 5 [.slice steps_3p steps_3l steps_3c] (.s (.one .bool)) fun b5 =>
 BIf (!b5) (
  k (.bool true)) (
  CallT Go.Proofs.Tryd.prog 6 [.int .i64 capacity_1, .slice steps_3p steps_3l steps_3c] (.s (.one .bool)) fun b6 =>
  BIf (!b6) (
   k (.bool true)) (
   Req (9 ≠ (0 : Int)) <|
   Bind (addI .i64 1 (remI (IntKind.wrap .i64 times_4) 9) : Int) fun n_7 =>
   Loop [(.int .i64), (.int .u8), .slice, (.int .i64), .slice, .slice, (.int .i64), (.int .i64)] (F4_L1 k) capacity_1 policy_2 steps_3p steps_3l steps_3c n_7 none 0 0 steps_3p steps_3l steps_3c ((steps_3l : Nat) : Int) 0))
theorem F4_eq (k : Value → W) (capacity_1 : Int) (policy_2 : Int) (steps_3p : Option Addr) (steps_3l : Nat) (steps_3c : Nat) (times_4 : Int) : compF Go.Proofs.Tryd.prog Go.Proofs.Tryd.f4 [(8, [(0, (.int .i64)), (1, (.int .u8)), (2, .slice), (9, (.int .i64)), (10, .slice), (25, .slice), (26, (.int .i64)), (27, (.int .i64))])] (Go.Proofs.Tryd.f4.body.getD .skip) [.int .i64 capacity_1, .int .u8 policy_2, .slice steps_3p steps_3l steps_3c, .int .u8 times_4] k = F4 k capacity_1 policy_2 steps_3p steps_3l steps_3c times_4 := by kernel_rfl
theorem F4_calls {capacity_1 : Int} {policy_2 : Int} {steps_3p : Option Addr} {steps_3l : Nat} {steps_3c : Nat} {times_4 : Int} {w : World} {R : Ending → World → Prop} (h : F4 (fun v w => R (.returned v) w) capacity_1 policy_2 steps_3p steps_3l steps_3c times_4 w) : Calls Go.Proofs.Tryd.prog 4 #[.int .i64 capacity_1, .int .u8 policy_2, .slice steps_3p steps_3l steps_3c, .int .u8 times_4] w R :=
  calls_of_compF noNum follows [(8, [(0, (.int .i64)), (1, (.int .u8)), (2, .slice), (9, (.int .i64)), (10, .slice), (25, .slice), (26, (.int .i64)), (27, (.int .i64))])] (f := 4) (fn := Go.Proofs.Tryd.f4) (body := Go.Proofs.Tryd.f4.body.getD .skip) (args := [.int .i64 capacity_1, .int .u8 policy_2, .slice steps_3p steps_3l steps_3c, .int .u8 times_4]) rfl rfl (Nat.le_of_ble_eq_true rfl) ((congrFun (F4_eq _ capacity_1 policy_2 steps_3p steps_3l steps_3c times_4) w).mpr h)
theorem F4_call {capacity_1 : Int} {policy_2 : Int} {steps_3p : Option Addr} {steps_3l : Nat} {steps_3c : Nat} {times_4 : Int} {w : World} {g : Fn W (RTy.leaves (.s (.one .bool)))} (h : F4 (fun v => Back (.s (.one .bool)) g (.returned v)) capacity_1 policy_2 steps_3p steps_3l steps_3c times_4 w) : CallT Go.Proofs.Tryd.prog 4 [.int .i64 capacity_1, .int .u8 policy_2, .slice steps_3p steps_3l steps_3c, .int .u8 times_4] (.s (.one .bool)) g w := F4_calls h

end Go.Proofs.YtmaejciimpnogaaDoor.E
