/-
  Printed by this session's own program eng.py out of Lean's print of the loaded functions: what each function's body asks, in the engine's words; each is checked against the program by the kernel.
-/
import Derived.Test.YtokejbejoegnnaaEng
import Derived.Test.YtokejbejoegnnaaProg
namespace Go.Proofs.Ytokejbejoegnnaa.E
open Go
set_option linter.unusedVariables false
set_option maxRecDepth 100000
theorem noNum : NoNum Go.Proofs.Try.prog := noNum_of (by kernel_rfl)
theorem follows : (Go.Proofs.Try.prog).follows .mixedOrders = true := by kernel_rfl

/-! ## laws.dxFew -/
def F7 (k : Value → W) (l_1p : Option Addr) (l_1l : Nat) (l_1c : Nat) : W :=
 BIf (decide (((l_1l : Nat) : Int) > 0)) (
  Bind (decide (((l_1l : Nat) : Int) ≤ 30)) fun y2 =>
  k (.bool y2)) (
  k (.bool false))
theorem F7_eq (k : Value → W) (l_1p : Option Addr) (l_1l : Nat) (l_1c : Nat) : compF Go.Proofs.Try.prog Go.Proofs.Try.f7 [] (Go.Proofs.Try.f7.body.getD .skip) [.slice l_1p l_1l l_1c] k = F7 k l_1p l_1l l_1c := by kernel_rfl
theorem F7_calls {l_1p : Option Addr} {l_1l : Nat} {l_1c : Nat} {w : World} {R : Ending → World → Prop} (h : F7 (fun v w => R (.returned v) w) l_1p l_1l l_1c w) : Calls Go.Proofs.Try.prog 7 #[.slice l_1p l_1l l_1c] w R :=
  calls_of_compF noNum follows [] (f := 7) (fn := Go.Proofs.Try.f7) (body := Go.Proofs.Try.f7.body.getD .skip) (args := [.slice l_1p l_1l l_1c]) rfl rfl (Nat.le_of_ble_eq_true rfl) ((congrFun (F7_eq _ l_1p l_1l l_1c) w).mpr h)
theorem F7_call {l_1p : Option Addr} {l_1l : Nat} {l_1c : Nat} {w : World} {g : Fn W (RTy.leaves (.s (.one .bool)))} (h : F7 (fun v => Back (.s (.one .bool)) g (.returned v)) l_1p l_1l l_1c w) : CallT Go.Proofs.Try.prog 7 [.slice l_1p l_1l l_1c] (.s (.one .bool)) g w := F7_calls h

/-! ## laws.dsInts -/
def F8_L1 (k : Value → W) (again6 : Option Addr → Nat → Nat → Option Addr → Nat → Nat → Int → Int → W) (out_2p : Option Addr) (out_2l : Nat) (out_2c : Nat) (s3p : Option Addr) (s3l : Nat) (s3c : Nat) (x4 : Int) (x5 : Int) : W :=
 BIf (decide (x5 < x4)) (
  NN s3p fun a7 =>
  Req (0 ≤ x5 ∧ x5 < ((s3l : Nat) : Int)) <|
  LoadT (.int .i16) (a7.add x5.toNat) fun x8 =>
  RawT Go.Proofs.Try.prog (Instr.buildSlice 24 1 [(0, .int .i64 (IntKind.wrap .i64 x8))].toArray) (.s (.one .slice)) fun s9p s9l s9c =>
  NextT Go.Proofs.Try.prog (builtin .append #[24, 24] 24 [false, false].toArray [.slice out_2p out_2l out_2c, .slice s9p s9l s9c].toArray) (.s (.one .slice)) fun s10p s10l s10c =>
  again6 s10p s10l s10c s3p s3l s3c x4 (addI .i64 x5 1)) (
  k (.slice out_2p out_2l out_2c))
theorem F8_L1_rule {k : Value → W} (I : Option Addr → Nat → Nat → Option Addr → Nat → Nat → Int → Int → W) (μ : Option Addr → Nat → Nat → Option Addr → Nat → Nat → Int → Int → World → Nat)
  (hr : ∀ (out_2p : Option Addr) (out_2l : Nat) (out_2c : Nat) (s3p : Option Addr) (s3l : Nat) (s3c : Nat) (x4 : Int) (x5 : Int) (w : World), I out_2p out_2l out_2c s3p s3l s3c x4 x5 w → F8_L1 k (fun out_2p' out_2l' out_2c' s3p' s3l' s3c' x4' x5' w' => I out_2p' out_2l' out_2c' s3p' s3l' s3c' x4' x5' w' ∧ μ out_2p' out_2l' out_2c' s3p' s3l' s3c' x4' x5' w' < μ out_2p out_2l out_2c s3p s3l s3c x4 x5 w) out_2p out_2l out_2c s3p s3l s3c x4 x5 w)
  {w : World} {out_2p : Option Addr} {out_2l : Nat} {out_2c : Nat} {s3p : Option Addr} {s3l : Nat} {s3c : Nat} {x4 : Int} {x5 : Int} (h : I out_2p out_2l out_2c s3p s3l s3c x4 x5 w) : Loop [.slice, .slice, (.int .i64), (.int .i64)] (F8_L1 k) out_2p out_2l out_2c s3p s3l s3c x4 x5 w :=
  Loop_intro (ts := [.slice, .slice, (.int .i64), (.int .i64)]) (s := ((out_2p, out_2l, out_2c), (s3p, s3l, s3c), x4, x5, ())) (fun s w => I s.1.1 s.1.2.1 s.1.2.2 s.2.1.1 s.2.1.2.1 s.2.1.2.2 s.2.2.1 s.2.2.2.1 w) (fun s w => μ s.1.1 s.1.2.1 s.1.2.2 s.2.1.1 s.2.1.2.1 s.2.1.2.2 s.2.2.1 s.2.2.2.1 w) h (fun s w h => hr s.1.1 s.1.2.1 s.1.2.2 s.2.1.1 s.2.1.2.1 s.2.1.2.2 s.2.2.1 s.2.2.2.1 w h)
def F8 (k : Value → W) (l_1p : Option Addr) (l_1l : Nat) (l_1c : Nat) : W :=
 Loop [.slice, .slice, (.int .i64), (.int .i64)] (F8_L1 k) none 0 0 l_1p l_1l l_1c ((l_1l : Nat) : Int) 0
theorem F8_eq (k : Value → W) (l_1p : Option Addr) (l_1l : Nat) (l_1c : Nat) : compF Go.Proofs.Try.prog Go.Proofs.Try.f8 [(3, [(3, .slice), (6, .slice), (7, (.int .i64)), (8, (.int .i64))])] (Go.Proofs.Try.f8.body.getD .skip) [.slice l_1p l_1l l_1c] k = F8 k l_1p l_1l l_1c := by kernel_rfl
theorem F8_calls {l_1p : Option Addr} {l_1l : Nat} {l_1c : Nat} {w : World} {R : Ending → World → Prop} (h : F8 (fun v w => R (.returned v) w) l_1p l_1l l_1c w) : Calls Go.Proofs.Try.prog 8 #[.slice l_1p l_1l l_1c] w R :=
  calls_of_compF noNum follows [(3, [(3, .slice), (6, .slice), (7, (.int .i64)), (8, (.int .i64))])] (f := 8) (fn := Go.Proofs.Try.f8) (body := Go.Proofs.Try.f8.body.getD .skip) (args := [.slice l_1p l_1l l_1c]) rfl rfl (Nat.le_of_ble_eq_true rfl) ((congrFun (F8_eq _ l_1p l_1l l_1c) w).mpr h)
theorem F8_call {l_1p : Option Addr} {l_1l : Nat} {l_1c : Nat} {w : World} {g : Fn W (RTy.leaves (.s (.one .slice)))} (h : F8 (fun v => Back (.s (.one .slice)) g (.returned v)) l_1p l_1l l_1c w) : CallT Go.Proofs.Try.prog 8 [.slice l_1p l_1l l_1c] (.s (.one .slice)) g w := F8_calls h

/-! ## slices.Equal[[]int,int] -/
def F10_L1 (k : Value → W) (again7 : Option Addr → Nat → Nat → Option Addr → Nat → Nat → Int → Int → W) (s1_3p : Option Addr) (s1_3l : Nat) (s1_3c : Nat) (s2_4p : Option Addr) (s2_4l : Nat) (s2_4c : Nat) (x5 : Int) (x6 : Int) : W :=
 BIf (decide (x6 < x5)) (
  Drw <|
  NN s1_3p fun a8 =>
  Req (0 ≤ x6 ∧ x6 < ((s1_3l : Nat) : Int)) <|
  LoadT (.int .i64) (a8.add x6.toNat) fun x9 =>
  NN s2_4p fun a10 =>
  Req (0 ≤ x6 ∧ x6 < ((s2_4l : Nat) : Int)) <|
  LoadT (.int .i64) (a10.add x6.toNat) fun x11 =>
  BIf (x9 != x11) (
   k (.bool false)) (
   again7 s1_3p s1_3l s1_3c s2_4p s2_4l s2_4c x5 (addI .i64 x6 1))) (
  k (.bool true))
theorem F10_L1_rule {k : Value → W} (I : Option Addr → Nat → Nat → Option Addr → Nat → Nat → Int → Int → W) (μ : Option Addr → Nat → Nat → Option Addr → Nat → Nat → Int → Int → World → Nat)
  (hr : ∀ (s1_3p : Option Addr) (s1_3l : Nat) (s1_3c : Nat) (s2_4p : Option Addr) (s2_4l : Nat) (s2_4c : Nat) (x5 : Int) (x6 : Int) (w : World), I s1_3p s1_3l s1_3c s2_4p s2_4l s2_4c x5 x6 w → F10_L1 k (fun s1_3p' s1_3l' s1_3c' s2_4p' s2_4l' s2_4c' x5' x6' w' => I s1_3p' s1_3l' s1_3c' s2_4p' s2_4l' s2_4c' x5' x6' w' ∧ μ s1_3p' s1_3l' s1_3c' s2_4p' s2_4l' s2_4c' x5' x6' w' < μ s1_3p s1_3l s1_3c s2_4p s2_4l s2_4c x5 x6 w) s1_3p s1_3l s1_3c s2_4p s2_4l s2_4c x5 x6 w)
  {w : World} {s1_3p : Option Addr} {s1_3l : Nat} {s1_3c : Nat} {s2_4p : Option Addr} {s2_4l : Nat} {s2_4c : Nat} {x5 : Int} {x6 : Int} (h : I s1_3p s1_3l s1_3c s2_4p s2_4l s2_4c x5 x6 w) : Loop [.slice, .slice, (.int .i64), (.int .i64)] (F10_L1 k) s1_3p s1_3l s1_3c s2_4p s2_4l s2_4c x5 x6 w :=
  Loop_intro (ts := [.slice, .slice, (.int .i64), (.int .i64)]) (s := ((s1_3p, s1_3l, s1_3c), (s2_4p, s2_4l, s2_4c), x5, x6, ())) (fun s w => I s.1.1 s.1.2.1 s.1.2.2 s.2.1.1 s.2.1.2.1 s.2.1.2.2 s.2.2.1 s.2.2.2.1 w) (fun s w => μ s.1.1 s.1.2.1 s.1.2.2 s.2.1.1 s.2.1.2.1 s.2.1.2.2 s.2.2.1 s.2.2.2.1 w) h (fun s w h => hr s.1.1 s.1.2.1 s.1.2.2 s.2.1.1 s.2.1.2.1 s.2.1.2.2 s.2.2.1 s.2.2.2.1 w h)
def F10 (k : Value → W) (s1_1p : Option Addr) (s1_1l : Nat) (s1_1c : Nat) (s2_2p : Option Addr) (s2_2l : Nat) (s2_2c : Nat) : W :=
 BIf (((s1_1l : Nat) : Int) != ((s2_2l : Nat) : Int)) (
  k (.bool false)) (
  Loop [.slice, .slice, (.int .i64), (.int .i64)] (F10_L1 k) s1_1p s1_1l s1_1c s2_2p s2_2l s2_2c ((s1_1l : Nat) : Int) 0)
theorem F10_eq (k : Value → W) (s1_1p : Option Addr) (s1_1l : Nat) (s1_1c : Nat) (s2_2p : Option Addr) (s2_2l : Nat) (s2_2c : Nat) : compF Go.Proofs.Try.prog Go.Proofs.Try.f10 [(4, [(0, .slice), (1, .slice), (12, (.int .i64)), (13, (.int .i64))])] (Go.Proofs.Try.f10.body.getD .skip) [.slice s1_1p s1_1l s1_1c, .slice s2_2p s2_2l s2_2c] k = F10 k s1_1p s1_1l s1_1c s2_2p s2_2l s2_2c := by kernel_rfl
theorem F10_calls {s1_1p : Option Addr} {s1_1l : Nat} {s1_1c : Nat} {s2_2p : Option Addr} {s2_2l : Nat} {s2_2c : Nat} {w : World} {R : Ending → World → Prop} (h : F10 (fun v w => R (.returned v) w) s1_1p s1_1l s1_1c s2_2p s2_2l s2_2c w) : Calls Go.Proofs.Try.prog 10 #[.slice s1_1p s1_1l s1_1c, .slice s2_2p s2_2l s2_2c] w R :=
  calls_of_compF noNum follows [(4, [(0, .slice), (1, .slice), (12, (.int .i64)), (13, (.int .i64))])] (f := 10) (fn := Go.Proofs.Try.f10) (body := Go.Proofs.Try.f10.body.getD .skip) (args := [.slice s1_1p s1_1l s1_1c, .slice s2_2p s2_2l s2_2c]) rfl rfl (Nat.le_of_ble_eq_true rfl) ((congrFun (F10_eq _ s1_1p s1_1l s1_1c s2_2p s2_2l s2_2c) w).mpr h)
theorem F10_call {s1_1p : Option Addr} {s1_1l : Nat} {s1_1c : Nat} {s2_2p : Option Addr} {s2_2l : Nat} {s2_2c : Nat} {w : World} {g : Fn W (RTy.leaves (.s (.one .bool)))} (h : F10 (fun v => Back (.s (.one .bool)) g (.returned v)) s1_1p s1_1l s1_1c s2_2p s2_2l s2_2c w) : CallT Go.Proofs.Try.prog 10 [.slice s1_1p s1_1l s1_1c, .slice s2_2p s2_2l s2_2c] (.s (.one .bool)) g w := F10_calls h

/-! ## set.New -/
def F30_L1 (k : Value → W) (again9 : Option Addr → Nat → Nat → Addr → Option Addr → Nat → Nat → Int → Int → W) (items_4p : Option Addr) (items_4l : Nat) (items_4c : Nat) (set_5 : Addr) (s6p : Option Addr) (s6l : Nat) (s6c : Nat) (x7 : Int) (x8 : Int) : W :=
 BIf (decide (x8 < x7)) (
  NN s6p fun a10 =>
  Req (0 ≤ x8 ∧ x8 < ((s6l : Nat) : Int)) <|
  LoadT .any (a10.add x8.toNat) fun v11 =>
  LoadT .map set_5 fun m12 =>
  RawU Go.Proofs.Try.prog (Instr.mapUpdate 98 (.map m12) v11 (.agg #[])) <|
  again9 items_4p items_4l items_4c set_5 s6p s6l s6c x7 (addI .i64 x8 1)) (
  BIf (decide (((items_4l : Nat) : Int) > 0)) (
   Store1 (set_5.add 1) (.slice none 0 0) <|
   k (.pointer (some set_5))) (
   k (.pointer (some set_5))))
theorem F30_L1_rule {k : Value → W} (I : Option Addr → Nat → Nat → Addr → Option Addr → Nat → Nat → Int → Int → W) (μ : Option Addr → Nat → Nat → Addr → Option Addr → Nat → Nat → Int → Int → World → Nat)
  (hr : ∀ (items_4p : Option Addr) (items_4l : Nat) (items_4c : Nat) (set_5 : Addr) (s6p : Option Addr) (s6l : Nat) (s6c : Nat) (x7 : Int) (x8 : Int) (w : World), I items_4p items_4l items_4c set_5 s6p s6l s6c x7 x8 w → F30_L1 k (fun items_4p' items_4l' items_4c' set_5' s6p' s6l' s6c' x7' x8' w' => I items_4p' items_4l' items_4c' set_5' s6p' s6l' s6c' x7' x8' w' ∧ μ items_4p' items_4l' items_4c' set_5' s6p' s6l' s6c' x7' x8' w' < μ items_4p items_4l items_4c set_5 s6p s6l s6c x7 x8 w) items_4p items_4l items_4c set_5 s6p s6l s6c x7 x8 w)
  {w : World} {items_4p : Option Addr} {items_4l : Nat} {items_4c : Nat} {set_5 : Addr} {s6p : Option Addr} {s6l : Nat} {s6c : Nat} {x7 : Int} {x8 : Int} (h : I items_4p items_4l items_4c set_5 s6p s6l s6c x7 x8 w) : Loop [.slice, .addr, .slice, (.int .i64), (.int .i64)] (F30_L1 k) items_4p items_4l items_4c set_5 s6p s6l s6c x7 x8 w :=
  Loop_intro (ts := [.slice, .addr, .slice, (.int .i64), (.int .i64)]) (s := ((items_4p, items_4l, items_4c), set_5, (s6p, s6l, s6c), x7, x8, ())) (fun s w => I s.1.1 s.1.2.1 s.1.2.2 s.2.1 s.2.2.1.1 s.2.2.1.2.1 s.2.2.1.2.2 s.2.2.2.1 s.2.2.2.2.1 w) (fun s w => μ s.1.1 s.1.2.1 s.1.2.2 s.2.1 s.2.2.1.1 s.2.2.1.2.1 s.2.2.1.2.2 s.2.2.2.1 s.2.2.2.2.1 w) h (fun s w h => hr s.1.1 s.1.2.1 s.1.2.2 s.2.1 s.2.2.1.1 s.2.2.1.2.1 s.2.2.1.2.2 s.2.2.2.1 s.2.2.2.2.1 w h)
def F30 (k : Value → W) (items_1p : Option Addr) (items_1l : Nat) (items_1c : Nat) : W :=
 RawT Go.Proofs.Try.prog (Instr.makeMap 98 (some (.int .i64 10))) (.s (.one .map)) fun m2 =>
 New [.map m2, .slice none 0 0] 100 fun n3 =>
 Loop [.slice, .addr, .slice, (.int .i64), (.int .i64)] (F30_L1 k) items_1p items_1l items_1c ⟨n3, 0, none⟩ items_1p items_1l items_1c ((items_1l : Nat) : Int) 0
theorem F30_eq (k : Value → W) (items_1p : Option Addr) (items_1l : Nat) (items_1c : Nat) : compF Go.Proofs.Try.prog Go.Proofs.Try.f30 [(3, [(0, .slice), (3, .addr), (9, .slice), (10, (.int .i64)), (11, (.int .i64))])] (Go.Proofs.Try.f30.body.getD .skip) [.slice items_1p items_1l items_1c] k = F30 k items_1p items_1l items_1c := by kernel_rfl
theorem F30_calls {items_1p : Option Addr} {items_1l : Nat} {items_1c : Nat} {w : World} {R : Ending → World → Prop} (h : F30 (fun v w => R (.returned v) w) items_1p items_1l items_1c w) : Calls Go.Proofs.Try.prog 30 #[.slice items_1p items_1l items_1c] w R :=
  calls_of_compF noNum follows [(3, [(0, .slice), (3, .addr), (9, .slice), (10, (.int .i64)), (11, (.int .i64))])] (f := 30) (fn := Go.Proofs.Try.f30) (body := Go.Proofs.Try.f30.body.getD .skip) (args := [.slice items_1p items_1l items_1c]) rfl rfl (Nat.le_of_ble_eq_true rfl) ((congrFun (F30_eq _ items_1p items_1l items_1c) w).mpr h)
theorem F30_call {items_1p : Option Addr} {items_1l : Nat} {items_1c : Nat} {w : World} {g : Fn W (RTy.leaves (.s (.one .ptr)))} (h : F30 (fun v => Back (.s (.one .ptr)) g (.returned v)) items_1p items_1l items_1c w) : CallT Go.Proofs.Try.prog 30 [.slice items_1p items_1l items_1c] (.s (.one .ptr)) g w := F30_calls h

/-! ## impl.anys -/
def F31_L1 (k : Value → W) (again6 : Option Addr → Nat → Nat → Option Addr → Nat → Nat → Int → Int → W) (out_2p : Option Addr) (out_2l : Nat) (out_2c : Nat) (s3p : Option Addr) (s3l : Nat) (s3c : Nat) (x4 : Int) (x5 : Int) : W :=
 BIf (decide (x5 < x4)) (
  NN s3p fun a7 =>
  Req (0 ≤ x5 ∧ x5 < ((s3l : Nat) : Int)) <|
  LoadT (.int .i64) (a7.add x5.toNat) fun x8 =>
  RawT Go.Proofs.Try.prog (Instr.buildSlice 76 1 [(0, .iface 3 (.int .i64 x8))].toArray) (.s (.one .slice)) fun s9p s9l s9c =>
  NextT Go.Proofs.Try.prog (builtin .append #[76, 76] 76 [false, false].toArray [.slice out_2p out_2l out_2c, .slice s9p s9l s9c].toArray) (.s (.one .slice)) fun s10p s10l s10c =>
  again6 s10p s10l s10c s3p s3l s3c x4 (addI .i64 x5 1)) (
  k (.slice out_2p out_2l out_2c))
theorem F31_L1_rule {k : Value → W} (I : Option Addr → Nat → Nat → Option Addr → Nat → Nat → Int → Int → W) (μ : Option Addr → Nat → Nat → Option Addr → Nat → Nat → Int → Int → World → Nat)
  (hr : ∀ (out_2p : Option Addr) (out_2l : Nat) (out_2c : Nat) (s3p : Option Addr) (s3l : Nat) (s3c : Nat) (x4 : Int) (x5 : Int) (w : World), I out_2p out_2l out_2c s3p s3l s3c x4 x5 w → F31_L1 k (fun out_2p' out_2l' out_2c' s3p' s3l' s3c' x4' x5' w' => I out_2p' out_2l' out_2c' s3p' s3l' s3c' x4' x5' w' ∧ μ out_2p' out_2l' out_2c' s3p' s3l' s3c' x4' x5' w' < μ out_2p out_2l out_2c s3p s3l s3c x4 x5 w) out_2p out_2l out_2c s3p s3l s3c x4 x5 w)
  {w : World} {out_2p : Option Addr} {out_2l : Nat} {out_2c : Nat} {s3p : Option Addr} {s3l : Nat} {s3c : Nat} {x4 : Int} {x5 : Int} (h : I out_2p out_2l out_2c s3p s3l s3c x4 x5 w) : Loop [.slice, .slice, (.int .i64), (.int .i64)] (F31_L1 k) out_2p out_2l out_2c s3p s3l s3c x4 x5 w :=
  Loop_intro (ts := [.slice, .slice, (.int .i64), (.int .i64)]) (s := ((out_2p, out_2l, out_2c), (s3p, s3l, s3c), x4, x5, ())) (fun s w => I s.1.1 s.1.2.1 s.1.2.2 s.2.1.1 s.2.1.2.1 s.2.1.2.2 s.2.2.1 s.2.2.2.1 w) (fun s w => μ s.1.1 s.1.2.1 s.1.2.2 s.2.1.1 s.2.1.2.1 s.2.1.2.2 s.2.2.1 s.2.2.2.1 w) h (fun s w h => hr s.1.1 s.1.2.1 s.1.2.2 s.2.1.1 s.2.1.2.1 s.2.1.2.2 s.2.2.1 s.2.2.2.1 w h)
def F31 (k : Value → W) (l_1p : Option Addr) (l_1l : Nat) (l_1c : Nat) : W :=
 Loop [.slice, .slice, (.int .i64), (.int .i64)] (F31_L1 k) none 0 0 l_1p l_1l l_1c ((l_1l : Nat) : Int) 0
theorem F31_eq (k : Value → W) (l_1p : Option Addr) (l_1l : Nat) (l_1c : Nat) : compF Go.Proofs.Try.prog Go.Proofs.Try.f31 [(3, [(3, .slice), (6, .slice), (7, (.int .i64)), (8, (.int .i64))])] (Go.Proofs.Try.f31.body.getD .skip) [.slice l_1p l_1l l_1c] k = F31 k l_1p l_1l l_1c := by kernel_rfl
theorem F31_calls {l_1p : Option Addr} {l_1l : Nat} {l_1c : Nat} {w : World} {R : Ending → World → Prop} (h : F31 (fun v w => R (.returned v) w) l_1p l_1l l_1c w) : Calls Go.Proofs.Try.prog 31 #[.slice l_1p l_1l l_1c] w R :=
  calls_of_compF noNum follows [(3, [(3, .slice), (6, .slice), (7, (.int .i64)), (8, (.int .i64))])] (f := 31) (fn := Go.Proofs.Try.f31) (body := Go.Proofs.Try.f31.body.getD .skip) (args := [.slice l_1p l_1l l_1c]) rfl rfl (Nat.le_of_ble_eq_true rfl) ((congrFun (F31_eq _ l_1p l_1l l_1c) w).mpr h)
theorem F31_call {l_1p : Option Addr} {l_1l : Nat} {l_1c : Nat} {w : World} {g : Fn W (RTy.leaves (.s (.one .slice)))} (h : F31 (fun v => Back (.s (.one .slice)) g (.returned v)) l_1p l_1l l_1c w) : CallT Go.Proofs.Try.prog 31 [.slice l_1p l_1l l_1c] (.s (.one .slice)) g w := F31_calls h

/-! ## set.Set).Add -/
def F32_L1 (k : Value → W) (again8 : Option Addr → Option Addr → Nat → Nat → Int → Int → W) (set_4 : Option Addr) (s5p : Option Addr) (s5l : Nat) (s5c : Nat) (x6 : Int) (x7 : Int) : W :=
 BIf (decide (x7 < x6)) (
  NN s5p fun a9 =>
  Req (0 ≤ x7 ∧ x7 < ((s5l : Nat) : Int)) <|
  LoadT .any (a9.add x7.toNat) fun v10 =>
  NN set_4 fun a11 =>
  LoadT .map a11 fun m12 =>
  RawU Go.Proofs.Try.prog (Instr.mapUpdate 98 (.map m12) v10 (.agg #[])) <|
  again8 set_4 s5p s5l s5c x6 (addI .i64 x7 1)) (
  k (.tuple #[]))
theorem F32_L1_rule {k : Value → W} (I : Option Addr → Option Addr → Nat → Nat → Int → Int → W) (μ : Option Addr → Option Addr → Nat → Nat → Int → Int → World → Nat)
  (hr : ∀ (set_4 : Option Addr) (s5p : Option Addr) (s5l : Nat) (s5c : Nat) (x6 : Int) (x7 : Int) (w : World), I set_4 s5p s5l s5c x6 x7 w → F32_L1 k (fun set_4' s5p' s5l' s5c' x6' x7' w' => I set_4' s5p' s5l' s5c' x6' x7' w' ∧ μ set_4' s5p' s5l' s5c' x6' x7' w' < μ set_4 s5p s5l s5c x6 x7 w) set_4 s5p s5l s5c x6 x7 w)
  {w : World} {set_4 : Option Addr} {s5p : Option Addr} {s5l : Nat} {s5c : Nat} {x6 : Int} {x7 : Int} (h : I set_4 s5p s5l s5c x6 x7 w) : Loop [.ptr, .slice, (.int .i64), (.int .i64)] (F32_L1 k) set_4 s5p s5l s5c x6 x7 w :=
  Loop_intro (ts := [.ptr, .slice, (.int .i64), (.int .i64)]) (s := (set_4, (s5p, s5l, s5c), x6, x7, ())) (fun s w => I s.1 s.2.1.1 s.2.1.2.1 s.2.1.2.2 s.2.2.1 s.2.2.2.1 w) (fun s w => μ s.1 s.2.1.1 s.2.1.2.1 s.2.1.2.2 s.2.2.1 s.2.2.2.1 w) h (fun s w h => hr s.1 s.2.1.1 s.2.1.2.1 s.2.1.2.2 s.2.2.1 s.2.2.2.1 w h)
def F32 (k : Value → W) (set_1 : Option Addr) (items_2p : Option Addr) (items_2l : Nat) (items_2c : Nat) : W :=
 NN set_1 fun a3 =>
 Store1 (a3.add 1) (.slice none 0 0) <|
 Loop [.ptr, .slice, (.int .i64), (.int .i64)] (F32_L1 k) set_1 items_2p items_2l items_2c ((items_2l : Nat) : Int) 0
theorem F32_eq (k : Value → W) (set_1 : Option Addr) (items_2p : Option Addr) (items_2l : Nat) (items_2c : Nat) : compF Go.Proofs.Try.prog Go.Proofs.Try.f32 [(2, [(0, .ptr), (9, .slice), (10, (.int .i64)), (11, (.int .i64))])] (Go.Proofs.Try.f32.body.getD .skip) [.pointer set_1, .slice items_2p items_2l items_2c] k = F32 k set_1 items_2p items_2l items_2c := by kernel_rfl
theorem F32_calls {set_1 : Option Addr} {items_2p : Option Addr} {items_2l : Nat} {items_2c : Nat} {w : World} {R : Ending → World → Prop} (h : F32 (fun v w => R (.returned v) w) set_1 items_2p items_2l items_2c w) : Calls Go.Proofs.Try.prog 32 #[.pointer set_1, .slice items_2p items_2l items_2c] w R :=
  calls_of_compF noNum follows [(2, [(0, .ptr), (9, .slice), (10, (.int .i64)), (11, (.int .i64))])] (f := 32) (fn := Go.Proofs.Try.f32) (body := Go.Proofs.Try.f32.body.getD .skip) (args := [.pointer set_1, .slice items_2p items_2l items_2c]) rfl rfl (Nat.le_of_ble_eq_true rfl) ((congrFun (F32_eq _ set_1 items_2p items_2l items_2c) w).mpr h)
theorem F32_call {set_1 : Option Addr} {items_2p : Option Addr} {items_2l : Nat} {items_2c : Nat} {w : World} {g : Fn W (RTy.leaves (.tup []))} (h : F32 (fun v => Back (.tup []) g (.returned v)) set_1 items_2p items_2l items_2c w) : CallT Go.Proofs.Try.prog 32 [.pointer set_1, .slice items_2p items_2l items_2c] (.tup []) g w := F32_calls h

/-! ## set.Set).Remove -/
def F33_L1 (k : Value → W) (again8 : Option Addr → Option Addr → Nat → Nat → Int → Int → W) (set_4 : Option Addr) (s5p : Option Addr) (s5l : Nat) (s5c : Nat) (x6 : Int) (x7 : Int) : W :=
 BIf (decide (x7 < x6)) (
  NN s5p fun a9 =>
  Req (0 ≤ x7 ∧ x7 < ((s5l : Nat) : Int)) <|
  LoadT .any (a9.add x7.toNat) fun v10 =>
  NN set_4 fun a11 =>
  LoadT .map a11 fun m12 =>
  NextT Go.Proofs.Try.prog (builtin .delete #[98, 20] 0 [false, false].toArray [.map m12, v10].toArray) (.tup []) <|
  again8 set_4 s5p s5l s5c x6 (addI .i64 x7 1)) (
  k (.tuple #[]))
theorem F33_L1_rule {k : Value → W} (I : Option Addr → Option Addr → Nat → Nat → Int → Int → W) (μ : Option Addr → Option Addr → Nat → Nat → Int → Int → World → Nat)
  (hr : ∀ (set_4 : Option Addr) (s5p : Option Addr) (s5l : Nat) (s5c : Nat) (x6 : Int) (x7 : Int) (w : World), I set_4 s5p s5l s5c x6 x7 w → F33_L1 k (fun set_4' s5p' s5l' s5c' x6' x7' w' => I set_4' s5p' s5l' s5c' x6' x7' w' ∧ μ set_4' s5p' s5l' s5c' x6' x7' w' < μ set_4 s5p s5l s5c x6 x7 w) set_4 s5p s5l s5c x6 x7 w)
  {w : World} {set_4 : Option Addr} {s5p : Option Addr} {s5l : Nat} {s5c : Nat} {x6 : Int} {x7 : Int} (h : I set_4 s5p s5l s5c x6 x7 w) : Loop [.ptr, .slice, (.int .i64), (.int .i64)] (F33_L1 k) set_4 s5p s5l s5c x6 x7 w :=
  Loop_intro (ts := [.ptr, .slice, (.int .i64), (.int .i64)]) (s := (set_4, (s5p, s5l, s5c), x6, x7, ())) (fun s w => I s.1 s.2.1.1 s.2.1.2.1 s.2.1.2.2 s.2.2.1 s.2.2.2.1 w) (fun s w => μ s.1 s.2.1.1 s.2.1.2.1 s.2.1.2.2 s.2.2.1 s.2.2.2.1 w) h (fun s w h => hr s.1 s.2.1.1 s.2.1.2.1 s.2.1.2.2 s.2.2.1 s.2.2.2.1 w h)
def F33 (k : Value → W) (set_1 : Option Addr) (items_2p : Option Addr) (items_2l : Nat) (items_2c : Nat) : W :=
 NN set_1 fun a3 =>
 Store1 (a3.add 1) (.slice none 0 0) <|
 Loop [.ptr, .slice, (.int .i64), (.int .i64)] (F33_L1 k) set_1 items_2p items_2l items_2c ((items_2l : Nat) : Int) 0
theorem F33_eq (k : Value → W) (set_1 : Option Addr) (items_2p : Option Addr) (items_2l : Nat) (items_2c : Nat) : compF Go.Proofs.Try.prog Go.Proofs.Try.f33 [(2, [(0, .ptr), (9, .slice), (10, (.int .i64)), (11, (.int .i64))])] (Go.Proofs.Try.f33.body.getD .skip) [.pointer set_1, .slice items_2p items_2l items_2c] k = F33 k set_1 items_2p items_2l items_2c := by kernel_rfl
theorem F33_calls {set_1 : Option Addr} {items_2p : Option Addr} {items_2l : Nat} {items_2c : Nat} {w : World} {R : Ending → World → Prop} (h : F33 (fun v w => R (.returned v) w) set_1 items_2p items_2l items_2c w) : Calls Go.Proofs.Try.prog 33 #[.pointer set_1, .slice items_2p items_2l items_2c] w R :=
  calls_of_compF noNum follows [(2, [(0, .ptr), (9, .slice), (10, (.int .i64)), (11, (.int .i64))])] (f := 33) (fn := Go.Proofs.Try.f33) (body := Go.Proofs.Try.f33.body.getD .skip) (args := [.pointer set_1, .slice items_2p items_2l items_2c]) rfl rfl (Nat.le_of_ble_eq_true rfl) ((congrFun (F33_eq _ set_1 items_2p items_2l items_2c) w).mpr h)
theorem F33_call {set_1 : Option Addr} {items_2p : Option Addr} {items_2l : Nat} {items_2c : Nat} {w : World} {g : Fn W (RTy.leaves (.tup []))} (h : F33 (fun v => Back (.tup []) g (.returned v)) set_1 items_2p items_2l items_2c w) : CallT Go.Proofs.Try.prog 33 [.pointer set_1, .slice items_2p items_2l items_2c] (.tup []) g w := F33_calls h

/-! ## set.Set).Clear -/
def F34 (k : Value → W) (set_1 : Option Addr) : W :=
 RawT Go.Proofs.Try.prog (Instr.makeMap 98 none) (.s (.one .map)) fun m2 =>
 NN set_1 fun a3 =>
 Store1 a3 (.map m2) <|
 k (.tuple #[])
theorem F34_eq (k : Value → W) (set_1 : Option Addr) : compF Go.Proofs.Try.prog Go.Proofs.Try.f34 [] (Go.Proofs.Try.f34.body.getD .skip) [.pointer set_1] k = F34 k set_1 := by kernel_rfl
theorem F34_calls {set_1 : Option Addr} {w : World} {R : Ending → World → Prop} (h : F34 (fun v w => R (.returned v) w) set_1 w) : Calls Go.Proofs.Try.prog 34 #[.pointer set_1] w R :=
  calls_of_compF noNum follows [] (f := 34) (fn := Go.Proofs.Try.f34) (body := Go.Proofs.Try.f34.body.getD .skip) (args := [.pointer set_1]) rfl rfl (Nat.le_of_ble_eq_true rfl) ((congrFun (F34_eq _ set_1) w).mpr h)
theorem F34_call {set_1 : Option Addr} {w : World} {g : Fn W (RTy.leaves (.tup []))} (h : F34 (fun v => Back (.tup []) g (.returned v)) set_1 w) : CallT Go.Proofs.Try.prog 34 [.pointer set_1] (.tup []) g w := F34_calls h

/-! ## set.Set).Len -/
def F35 (k : Value → W) (set_1 : Option Addr) : W :=
 NN set_1 fun a2 =>
 LoadT .map a2 fun m3 =>
 NextT Go.Proofs.Try.prog (builtin .len #[98] 3 [false].toArray [.map m3].toArray) (.s (.one (.int .i64))) fun x4 =>
 k (.int .i64 x4)
theorem F35_eq (k : Value → W) (set_1 : Option Addr) : compF Go.Proofs.Try.prog Go.Proofs.Try.f35 [] (Go.Proofs.Try.f35.body.getD .skip) [.pointer set_1] k = F35 k set_1 := by kernel_rfl
theorem F35_calls {set_1 : Option Addr} {w : World} {R : Ending → World → Prop} (h : F35 (fun v w => R (.returned v) w) set_1 w) : Calls Go.Proofs.Try.prog 35 #[.pointer set_1] w R :=
  calls_of_compF noNum follows [] (f := 35) (fn := Go.Proofs.Try.f35) (body := Go.Proofs.Try.f35.body.getD .skip) (args := [.pointer set_1]) rfl rfl (Nat.le_of_ble_eq_true rfl) ((congrFun (F35_eq _ set_1) w).mpr h)
theorem F35_call {set_1 : Option Addr} {w : World} {g : Fn W (RTy.leaves (.s (.one (.int .i64))))} (h : F35 (fun v => Back (.s (.one (.int .i64))) g (.returned v)) set_1 w) : CallT Go.Proofs.Try.prog 35 [.pointer set_1] (.s (.one (.int .i64))) g w := F35_calls h

/-! ## set.Set).All -/
def F36_L1 (k : Value → W) (again7 : Option Addr → Option Addr → Nat → Nat → Int → Int → W) (set_3 : Option Addr) (s4p : Option Addr) (s4l : Nat) (s4c : Nat) (x5 : Int) (x6 : Int) : W :=
 BIf (decide (x6 < x5)) (
  NN s4p fun a8 =>
  Req (0 ≤ x6 ∧ x6 < ((s4l : Nat) : Int)) <|
  LoadT .any (a8.add x6.toNat) fun v9 =>
  NN set_3 fun a10 =>
  LoadT .map a10 fun m11 =>
  RawS Go.Proofs.Try.prog (Instr.lookup 98 (.map m11) v9 true) (.tup [(.agg []), (.one .bool)]) fun b12 =>
  New [] 101 fun n13 =>
  BIf (!b12) (
   k (.bool false)) (
   again7 set_3 s4p s4l s4c x5 (addI .i64 x6 1))) (
  k (.bool true))
theorem F36_L1_rule {k : Value → W} (I : Option Addr → Option Addr → Nat → Nat → Int → Int → W) (μ : Option Addr → Option Addr → Nat → Nat → Int → Int → World → Nat)
  (hr : ∀ (set_3 : Option Addr) (s4p : Option Addr) (s4l : Nat) (s4c : Nat) (x5 : Int) (x6 : Int) (w : World), I set_3 s4p s4l s4c x5 x6 w → F36_L1 k (fun set_3' s4p' s4l' s4c' x5' x6' w' => I set_3' s4p' s4l' s4c' x5' x6' w' ∧ μ set_3' s4p' s4l' s4c' x5' x6' w' < μ set_3 s4p s4l s4c x5 x6 w) set_3 s4p s4l s4c x5 x6 w)
  {w : World} {set_3 : Option Addr} {s4p : Option Addr} {s4l : Nat} {s4c : Nat} {x5 : Int} {x6 : Int} (h : I set_3 s4p s4l s4c x5 x6 w) : Loop [.ptr, .slice, (.int .i64), (.int .i64)] (F36_L1 k) set_3 s4p s4l s4c x5 x6 w :=
  Loop_intro (ts := [.ptr, .slice, (.int .i64), (.int .i64)]) (s := (set_3, (s4p, s4l, s4c), x5, x6, ())) (fun s w => I s.1 s.2.1.1 s.2.1.2.1 s.2.1.2.2 s.2.2.1 s.2.2.2.1 w) (fun s w => μ s.1 s.2.1.1 s.2.1.2.1 s.2.1.2.2 s.2.2.1 s.2.2.2.1 w) h (fun s w h => hr s.1 s.2.1.1 s.2.1.2.1 s.2.1.2.2 s.2.2.1 s.2.2.2.1 w h)
def F36 (k : Value → W) (set_1 : Option Addr) (items_2p : Option Addr) (items_2l : Nat) (items_2c : Nat) : W :=
 Loop [.ptr, .slice, (.int .i64), (.int .i64)] (F36_L1 k) set_1 items_2p items_2l items_2c ((items_2l : Nat) : Int) 0
theorem F36_eq (k : Value → W) (set_1 : Option Addr) (items_2p : Option Addr) (items_2l : Nat) (items_2c : Nat) : compF Go.Proofs.Try.prog Go.Proofs.Try.f36 [(2, [(0, .ptr), (9, .slice), (10, (.int .i64)), (11, (.int .i64))])] (Go.Proofs.Try.f36.body.getD .skip) [.pointer set_1, .slice items_2p items_2l items_2c] k = F36 k set_1 items_2p items_2l items_2c := by kernel_rfl
theorem F36_calls {set_1 : Option Addr} {items_2p : Option Addr} {items_2l : Nat} {items_2c : Nat} {w : World} {R : Ending → World → Prop} (h : F36 (fun v w => R (.returned v) w) set_1 items_2p items_2l items_2c w) : Calls Go.Proofs.Try.prog 36 #[.pointer set_1, .slice items_2p items_2l items_2c] w R :=
  calls_of_compF noNum follows [(2, [(0, .ptr), (9, .slice), (10, (.int .i64)), (11, (.int .i64))])] (f := 36) (fn := Go.Proofs.Try.f36) (body := Go.Proofs.Try.f36.body.getD .skip) (args := [.pointer set_1, .slice items_2p items_2l items_2c]) rfl rfl (Nat.le_of_ble_eq_true rfl) ((congrFun (F36_eq _ set_1 items_2p items_2l items_2c) w).mpr h)
theorem F36_call {set_1 : Option Addr} {items_2p : Option Addr} {items_2l : Nat} {items_2c : Nat} {w : World} {g : Fn W (RTy.leaves (.s (.one .bool)))} (h : F36 (fun v => Back (.s (.one .bool)) g (.returned v)) set_1 items_2p items_2l items_2c w) : CallT Go.Proofs.Try.prog 36 [.pointer set_1, .slice items_2p items_2l items_2c] (.s (.one .bool)) g w := F36_calls h

/-! ## set.Set).Flatten -/
def F37_L1 (k : Value → W) (again16 : Option Addr → Value → W) (set_14 : Option Addr) (v15 : Value) : W :=
 RawT Go.Proofs.Try.prog (Instr.next v15 false 0) (.s (.one .any)) fun v17 =>
 ExtW v17 0 (.one .bool) fun b18 =>
 BIf b18 (
  RawT Go.Proofs.Try.prog (Instr.entry v15) (.s (.one .any)) fun v19 =>
  ExtW v19 0 (.one .any) fun v20 =>
  NN set_14 fun a21 =>
  LoadT .slice (a21.add 1) fun s22p s22l s22c =>
  RawT Go.Proofs.Try.prog (Instr.buildSlice 76 1 [(0, v20)].toArray) (.s (.one .slice)) fun s23p s23l s23c =>
  NextT Go.Proofs.Try.prog (builtin .append #[76, 76] 76 [false, false].toArray [.slice s22p s22l s22c, .slice s23p s23l s23c].toArray) (.s (.one .slice)) fun s24p s24l s24c =>
  NN set_14 fun a25 =>
  Store1 (a25.add 1) (.slice s24p s24l s24c) <|
  again16 set_14 v15) (
  NN set_14 fun a26 =>
  LoadT .slice (a26.add 1) fun s27p s27l s27c =>
  k (.slice s27p s27l s27c))
theorem F37_L1_rule {k : Value → W} (I : Option Addr → Value → W) (μ : Option Addr → Value → World → Nat)
  (hr : ∀ (set_14 : Option Addr) (v15 : Value) (w : World), I set_14 v15 w → F37_L1 k (fun set_14' v15' w' => I set_14' v15' w' ∧ μ set_14' v15' w' < μ set_14 v15 w) set_14 v15 w)
  {w : World} {set_14 : Option Addr} {v15 : Value} (h : I set_14 v15 w) : Loop [.ptr, .any] (F37_L1 k) set_14 v15 w :=
  Loop_intro (ts := [.ptr, .any]) (s := (set_14, v15, ())) (fun s w => I s.1 s.2.1 w) (fun s w => μ s.1 s.2.1 w) h (fun s w h => hr s.1 s.2.1 w h)
def F37 (k : Value → W) (set_1 : Option Addr) : W :=
 NN set_1 fun a2 =>
 LoadT .slice (a2.add 1) fun s3p s3l s3c =>
 BIf (!s3p.isNone) (
  NN set_1 fun a4 =>
  LoadT .slice (a4.add 1) fun s5p s5l s5c =>
  k (.slice s5p s5l s5c)) (
  NN set_1 fun a6 =>
  LoadT .map a6 fun m7 =>
  NextT Go.Proofs.Try.prog (builtin .len #[98] 3 [false].toArray [.map m7].toArray) (.s (.one (.int .i64))) fun x8 =>
  RawT Go.Proofs.Try.prog (Instr.makeSlice 76 (.int .i64 0) (.int .i64 x8)) (.s (.one .slice)) fun s9p s9l s9c =>
  NN set_1 fun a10 =>
  Store1 (a10.add 1) (.slice s9p s9l s9c) <|
  NN set_1 fun a11 =>
  LoadT .map a11 fun m12 =>
  RawT Go.Proofs.Try.prog (Instr.range 98 (.map m12)) (.s (.one .any)) fun v13 =>
  Loop [.ptr, .any] (F37_L1 k) set_1 v13)
theorem F37_eq (k : Value → W) (set_1 : Option Addr) : compF Go.Proofs.Try.prog Go.Proofs.Try.f37 [(5, [(0, .ptr), (26, .any)])] (Go.Proofs.Try.f37.body.getD .skip) [.pointer set_1] k = F37 k set_1 := by kernel_rfl
theorem F37_calls {set_1 : Option Addr} {w : World} {R : Ending → World → Prop} (h : F37 (fun v w => R (.returned v) w) set_1 w) : Calls Go.Proofs.Try.prog 37 #[.pointer set_1] w R :=
  calls_of_compF noNum follows [(5, [(0, .ptr), (26, .any)])] (f := 37) (fn := Go.Proofs.Try.f37) (body := Go.Proofs.Try.f37.body.getD .skip) (args := [.pointer set_1]) rfl rfl (Nat.le_of_ble_eq_true rfl) ((congrFun (F37_eq _ set_1) w).mpr h)
theorem F37_call {set_1 : Option Addr} {w : World} {g : Fn W (RTy.leaves (.s (.one .slice)))} (h : F37 (fun v => Back (.s (.one .slice)) g (.returned v)) set_1 w) : CallT Go.Proofs.Try.prog 37 [.pointer set_1] (.s (.one .slice)) g w := F37_calls h

/-! ## set.Set).Exists -/
def F38 (k : Value → W) (set_1 : Option Addr) (item_2 : Value) : W :=
 NN set_1 fun a3 =>
 LoadT .map a3 fun m4 =>
 RawS Go.Proofs.Try.prog (Instr.lookup 98 (.map m4) item_2 true) (.tup [(.agg []), (.one .bool)]) fun b5 =>
 New [] 101 fun n6 =>
 k (.bool b5)
theorem F38_eq (k : Value → W) (set_1 : Option Addr) (item_2 : Value) : compF Go.Proofs.Try.prog Go.Proofs.Try.f38 [] (Go.Proofs.Try.f38.body.getD .skip) [.pointer set_1, item_2] k = F38 k set_1 item_2 := by kernel_rfl
theorem F38_calls {set_1 : Option Addr} {item_2 : Value} {w : World} {R : Ending → World → Prop} (h : F38 (fun v w => R (.returned v) w) set_1 item_2 w) : Calls Go.Proofs.Try.prog 38 #[.pointer set_1, item_2] w R :=
  calls_of_compF noNum follows [] (f := 38) (fn := Go.Proofs.Try.f38) (body := Go.Proofs.Try.f38.body.getD .skip) (args := [.pointer set_1, item_2]) rfl rfl (Nat.le_of_ble_eq_true rfl) ((congrFun (F38_eq _ set_1 item_2) w).mpr h)
theorem F38_call {set_1 : Option Addr} {item_2 : Value} {w : World} {g : Fn W (RTy.leaves (.s (.one .bool)))} (h : F38 (fun v => Back (.s (.one .bool)) g (.returned v)) set_1 item_2 w) : CallT Go.Proofs.Try.prog 38 [.pointer set_1, item_2] (.s (.one .bool)) g w := F38_calls h

/-! ## impl.STRun -/
def F19_L3 (k : Value → W) (again10 : Option Addr → Option Addr → Nat → Nat → Option Addr → Nat → Nat → Int → Int → W) (again65 : Option Addr → Option Addr → Nat → Nat → Addr → Option Addr → Nat → Nat → Int → Int → Option Addr → Nat → Nat → Int → Int → W) (x_56 : Option Addr) (out_57p : Option Addr) (out_57l : Nat) (out_57c : Nat) (said_58 : Addr) (s59p : Option Addr) (s59l : Nat) (s59c : Nat) (x60 : Int) (x61 : Int) (s62p : Option Addr) (s62l : Nat) (s62c : Nat) (x63 : Int) (x64 : Int) : W :=
 BIf (decide (x64 < x63)) (
  NN s62p fun a66 =>
  Req (0 ≤ x64 ∧ x64 < ((s62l : Nat) : Int)) <|
  LoadT (.int .i64) (a66.add x64.toNat) fun x67 =>
  Drw <|
  LoadT .slice (said_58.add 3) fun s68p s68l s68c =>
  CallT Go.Proofs.Try.prog 38 [.pointer x_56, .iface 3 (.int .i64 x67)] (.s (.one .bool)) fun b69 =>
  Chk1 (said_58.add 3) (.slice s68p s68l s68c) <|
  RawT Go.Proofs.Try.prog (Instr.buildSlice 26 1 [(0, .bool b69)].toArray) (.s (.one .slice)) fun s70p s70l s70c =>
  Chk1 (said_58.add 3) (.slice s68p s68l s68c) <|
  NextT Go.Proofs.Try.prog (builtin .append #[26, 26] 26 [false, false].toArray [.slice s68p s68l s68c, .slice s70p s70l s70c].toArray) (.s (.one .slice)) fun s71p s71l s71c =>
  Store1 (said_58.add 3) (.slice s71p s71l s71c) <|
  again65 x_56 out_57p out_57l out_57c said_58 s59p s59l s59c x60 x61 s62p s62l s62c x63 (addI .i64 x64 1)) (
  LoadT (.int .i64) (said_58.add 0) fun x72 =>
  LoadT .slice (said_58.add 1) fun s73p s73l s73c =>
  LoadT .bool (said_58.add 2) fun b74 =>
  LoadT .slice (said_58.add 3) fun s75p s75l s75c =>
  RawT Go.Proofs.Try.prog (Instr.buildSlice 56 1 [(0, .agg #[.int .i64 x72, .slice s73p s73l s73c, .bool b74, .slice s75p s75l s75c])].toArray) (.s (.one .slice)) fun s76p s76l s76c =>
  NextT Go.Proofs.Try.prog (builtin .append #[56, 56] 56 [false, false].toArray [.slice out_57p out_57l out_57c, .slice s76p s76l s76c].toArray) (.s (.one .slice)) fun s77p s77l s77c =>
  again10 x_56 s77p s77l s77c s59p s59l s59c x60 (addI .i64 x61 1))
theorem F19_L3_rule {k : Value → W} {again10 : Option Addr → Option Addr → Nat → Nat → Option Addr → Nat → Nat → Int → Int → W} (I : Option Addr → Option Addr → Nat → Nat → Addr → Option Addr → Nat → Nat → Int → Int → Option Addr → Nat → Nat → Int → Int → W) (μ : Option Addr → Option Addr → Nat → Nat → Addr → Option Addr → Nat → Nat → Int → Int → Option Addr → Nat → Nat → Int → Int → World → Nat)
  (hr : ∀ (x_56 : Option Addr) (out_57p : Option Addr) (out_57l : Nat) (out_57c : Nat) (said_58 : Addr) (s59p : Option Addr) (s59l : Nat) (s59c : Nat) (x60 : Int) (x61 : Int) (s62p : Option Addr) (s62l : Nat) (s62c : Nat) (x63 : Int) (x64 : Int) (w : World), I x_56 out_57p out_57l out_57c said_58 s59p s59l s59c x60 x61 s62p s62l s62c x63 x64 w → F19_L3 k again10 (fun x_56' out_57p' out_57l' out_57c' said_58' s59p' s59l' s59c' x60' x61' s62p' s62l' s62c' x63' x64' w' => I x_56' out_57p' out_57l' out_57c' said_58' s59p' s59l' s59c' x60' x61' s62p' s62l' s62c' x63' x64' w' ∧ μ x_56' out_57p' out_57l' out_57c' said_58' s59p' s59l' s59c' x60' x61' s62p' s62l' s62c' x63' x64' w' < μ x_56 out_57p out_57l out_57c said_58 s59p s59l s59c x60 x61 s62p s62l s62c x63 x64 w) x_56 out_57p out_57l out_57c said_58 s59p s59l s59c x60 x61 s62p s62l s62c x63 x64 w)
  {w : World} {x_56 : Option Addr} {out_57p : Option Addr} {out_57l : Nat} {out_57c : Nat} {said_58 : Addr} {s59p : Option Addr} {s59l : Nat} {s59c : Nat} {x60 : Int} {x61 : Int} {s62p : Option Addr} {s62l : Nat} {s62c : Nat} {x63 : Int} {x64 : Int} (h : I x_56 out_57p out_57l out_57c said_58 s59p s59l s59c x60 x61 s62p s62l s62c x63 x64 w) : Loop [.ptr, .slice, .addr, .slice, (.int .i64), (.int .i64), .slice, (.int .i64), (.int .i64)] (F19_L3 k again10) x_56 out_57p out_57l out_57c said_58 s59p s59l s59c x60 x61 s62p s62l s62c x63 x64 w :=
  Loop_intro (ts := [.ptr, .slice, .addr, .slice, (.int .i64), (.int .i64), .slice, (.int .i64), (.int .i64)]) (s := (x_56, (out_57p, out_57l, out_57c), said_58, (s59p, s59l, s59c), x60, x61, (s62p, s62l, s62c), x63, x64, ())) (fun s w => I s.1 s.2.1.1 s.2.1.2.1 s.2.1.2.2 s.2.2.1 s.2.2.2.1.1 s.2.2.2.1.2.1 s.2.2.2.1.2.2 s.2.2.2.2.1 s.2.2.2.2.2.1 s.2.2.2.2.2.2.1.1 s.2.2.2.2.2.2.1.2.1 s.2.2.2.2.2.2.1.2.2 s.2.2.2.2.2.2.2.1 s.2.2.2.2.2.2.2.2.1 w) (fun s w => μ s.1 s.2.1.1 s.2.1.2.1 s.2.1.2.2 s.2.2.1 s.2.2.2.1.1 s.2.2.2.1.2.1 s.2.2.2.1.2.2 s.2.2.2.2.1 s.2.2.2.2.2.1 s.2.2.2.2.2.2.1.1 s.2.2.2.2.2.2.1.2.1 s.2.2.2.2.2.2.1.2.2 s.2.2.2.2.2.2.2.1 s.2.2.2.2.2.2.2.2.1 w) h (fun s w h => hr s.1 s.2.1.1 s.2.1.2.1 s.2.1.2.2 s.2.2.1 s.2.2.2.1.1 s.2.2.2.1.2.1 s.2.2.2.1.2.2 s.2.2.2.2.1 s.2.2.2.2.2.1 s.2.2.2.2.2.2.1.1 s.2.2.2.2.2.2.1.2.1 s.2.2.2.2.2.2.1.2.2 s.2.2.2.2.2.2.2.1 s.2.2.2.2.2.2.2.2.1 w h)
def F19_L2 (k : Value → W) (again10 : Option Addr → Option Addr → Nat → Nat → Option Addr → Nat → Nat → Int → Int → W) (again48 : Option Addr → Option Addr → Nat → Nat → Addr → Addr → Option Addr → Nat → Nat → Int → Int → Option Addr → Nat → Nat → Int → Int → W) (x_38 : Option Addr) (out_39p : Option Addr) (out_39l : Nat) (out_39c : Nat) (s_40 : Addr) (said_41 : Addr) (s42p : Option Addr) (s42l : Nat) (s42c : Nat) (x43 : Int) (x44 : Int) (s45p : Option Addr) (s45l : Nat) (s45c : Nat) (x46 : Int) (x47 : Int) : W :=
 BIf (decide (x47 < x46)) (
  NN s45p fun a49 =>
  Req (0 ≤ x47 ∧ x47 < ((s45l : Nat) : Int)) <|
  LoadT .any (a49.add x47.toNat) fun v50 =>
  Drw <|
  LoadT .slice (said_41.add 1) fun s51p s51l s51c =>
  TAs v50 3 (.s (.one (.int .i64))) fun x52 =>
  RawT Go.Proofs.Try.prog (Instr.buildSlice 24 1 [(0, .int .i64 x52)].toArray) (.s (.one .slice)) fun s53p s53l s53c =>
  Chk1 (said_41.add 1) (.slice s51p s51l s51c) <|
  NextT Go.Proofs.Try.prog (builtin .append #[24, 24] 24 [false, false].toArray [.slice s51p s51l s51c, .slice s53p s53l s53c].toArray) (.s (.one .slice)) fun s54p s54l s54c =>
  Store1 (said_41.add 1) (.slice s54p s54l s54c) <|
  again48 x_38 out_39p out_39l out_39c s_40 said_41 s42p s42l s42c x43 x44 s45p s45l s45c x46 (addI .i64 x47 1)) (
  LoadT .slice (s_40.add 1) fun s55p s55l s55c =>
  Loop [.ptr, .slice, .addr, .slice, (.int .i64), (.int .i64), .slice, (.int .i64), (.int .i64)] (F19_L3 k again10) x_38 out_39p out_39l out_39c said_41 s42p s42l s42c x43 x44 s55p s55l s55c ((s55l : Nat) : Int) 0)
theorem F19_L2_rule {k : Value → W} {again10 : Option Addr → Option Addr → Nat → Nat → Option Addr → Nat → Nat → Int → Int → W} (I : Option Addr → Option Addr → Nat → Nat → Addr → Addr → Option Addr → Nat → Nat → Int → Int → Option Addr → Nat → Nat → Int → Int → W) (μ : Option Addr → Option Addr → Nat → Nat → Addr → Addr → Option Addr → Nat → Nat → Int → Int → Option Addr → Nat → Nat → Int → Int → World → Nat)
  (hr : ∀ (x_38 : Option Addr) (out_39p : Option Addr) (out_39l : Nat) (out_39c : Nat) (s_40 : Addr) (said_41 : Addr) (s42p : Option Addr) (s42l : Nat) (s42c : Nat) (x43 : Int) (x44 : Int) (s45p : Option Addr) (s45l : Nat) (s45c : Nat) (x46 : Int) (x47 : Int) (w : World), I x_38 out_39p out_39l out_39c s_40 said_41 s42p s42l s42c x43 x44 s45p s45l s45c x46 x47 w → F19_L2 k again10 (fun x_38' out_39p' out_39l' out_39c' s_40' said_41' s42p' s42l' s42c' x43' x44' s45p' s45l' s45c' x46' x47' w' => I x_38' out_39p' out_39l' out_39c' s_40' said_41' s42p' s42l' s42c' x43' x44' s45p' s45l' s45c' x46' x47' w' ∧ μ x_38' out_39p' out_39l' out_39c' s_40' said_41' s42p' s42l' s42c' x43' x44' s45p' s45l' s45c' x46' x47' w' < μ x_38 out_39p out_39l out_39c s_40 said_41 s42p s42l s42c x43 x44 s45p s45l s45c x46 x47 w) x_38 out_39p out_39l out_39c s_40 said_41 s42p s42l s42c x43 x44 s45p s45l s45c x46 x47 w)
  {w : World} {x_38 : Option Addr} {out_39p : Option Addr} {out_39l : Nat} {out_39c : Nat} {s_40 : Addr} {said_41 : Addr} {s42p : Option Addr} {s42l : Nat} {s42c : Nat} {x43 : Int} {x44 : Int} {s45p : Option Addr} {s45l : Nat} {s45c : Nat} {x46 : Int} {x47 : Int} (h : I x_38 out_39p out_39l out_39c s_40 said_41 s42p s42l s42c x43 x44 s45p s45l s45c x46 x47 w) : Loop [.ptr, .slice, .addr, .addr, .slice, (.int .i64), (.int .i64), .slice, (.int .i64), (.int .i64)] (F19_L2 k again10) x_38 out_39p out_39l out_39c s_40 said_41 s42p s42l s42c x43 x44 s45p s45l s45c x46 x47 w :=
  Loop_intro (ts := [.ptr, .slice, .addr, .addr, .slice, (.int .i64), (.int .i64), .slice, (.int .i64), (.int .i64)]) (s := (x_38, (out_39p, out_39l, out_39c), s_40, said_41, (s42p, s42l, s42c), x43, x44, (s45p, s45l, s45c), x46, x47, ())) (fun s w => I s.1 s.2.1.1 s.2.1.2.1 s.2.1.2.2 s.2.2.1 s.2.2.2.1 s.2.2.2.2.1.1 s.2.2.2.2.1.2.1 s.2.2.2.2.1.2.2 s.2.2.2.2.2.1 s.2.2.2.2.2.2.1 s.2.2.2.2.2.2.2.1.1 s.2.2.2.2.2.2.2.1.2.1 s.2.2.2.2.2.2.2.1.2.2 s.2.2.2.2.2.2.2.2.1 s.2.2.2.2.2.2.2.2.2.1 w) (fun s w => μ s.1 s.2.1.1 s.2.1.2.1 s.2.1.2.2 s.2.2.1 s.2.2.2.1 s.2.2.2.2.1.1 s.2.2.2.2.1.2.1 s.2.2.2.2.1.2.2 s.2.2.2.2.2.1 s.2.2.2.2.2.2.1 s.2.2.2.2.2.2.2.1.1 s.2.2.2.2.2.2.2.1.2.1 s.2.2.2.2.2.2.2.1.2.2 s.2.2.2.2.2.2.2.2.1 s.2.2.2.2.2.2.2.2.2.1 w) h (fun s w h => hr s.1 s.2.1.1 s.2.1.2.1 s.2.1.2.2 s.2.2.1 s.2.2.2.1 s.2.2.2.2.1.1 s.2.2.2.2.1.2.1 s.2.2.2.2.1.2.2 s.2.2.2.2.2.1 s.2.2.2.2.2.2.1 s.2.2.2.2.2.2.2.1.1 s.2.2.2.2.2.2.2.1.2.1 s.2.2.2.2.2.2.2.1.2.2 s.2.2.2.2.2.2.2.2.1 s.2.2.2.2.2.2.2.2.2.1 w h)
def F19_J2 (k : Value → W) (again10 : Option Addr → Option Addr → Nat → Nat → Option Addr → Nat → Nat → Int → Int → W) (x_29 : Option Addr) (out_30p : Option Addr) (out_30l : Nat) (out_30c : Nat) (s_31 : Addr) (said_32 : Addr) (s33p : Option Addr) (s33l : Nat) (s33c : Nat) (x34 : Int) (x35 : Int) : W :=
 CallT Go.Proofs.Try.prog 37 [.pointer x_29] (.s (.one .slice)) fun s36p s36l s36c =>
 CallT Go.Proofs.Try.prog 37 [.pointer x_29] (.s (.one .slice)) fun s37p s37l s37c =>
 Loop [.ptr, .slice, .addr, .addr, .slice, (.int .i64), (.int .i64), .slice, (.int .i64), (.int .i64)] (F19_L2 k again10) x_29 out_30p out_30l out_30c s_31 said_32 s33p s33l s33c x34 x35 s37p s37l s37c ((s37l : Nat) : Int) 0
def F19_J1 (k : Value → W) (again10 : Option Addr → Option Addr → Nat → Nat → Option Addr → Nat → Nat → Int → Int → W) (x_18 : Option Addr) (out_19p : Option Addr) (out_19l : Nat) (out_19c : Nat) (s_20 : Addr) (s21p : Option Addr) (s21l : Nat) (s21c : Nat) (x22 : Int) (x23 : Int) : W :=
 Drw <|
 LoadT .slice (s_20.add 1) fun s24p s24l s24c =>
 Both (
  CallT Go.Proofs.Try.prog 35 [.pointer x_18] (.s (.one (.int .i64))) fun x25 =>
  Chk1 (s_20.add 1) (.slice s24p s24l s24c) <|
  Both (
   CallT Go.Proofs.Try.prog 31 [.slice s24p s24l s24c] (.s (.one .slice)) fun s26p s26l s26c =>
   Both (
    CallT Go.Proofs.Try.prog 36 [.pointer x_18, .slice s26p s26l s26c] (.s (.one .bool)) fun b27 =>
    Chk1 (s_20.add 1) (.slice s24p s24l s24c) <|
    New [.int .i64 0, .slice none 0 0, .bool false, .slice none 0 0] 28 fun n28 =>
    Chk1 (s_20.add 1) (.slice s24p s24l s24c) <|
    Store1 ⟨n28, 0, none⟩ (.int .i64 x25) <|
    Store1 ⟨n28, 1, none⟩ (.slice none 0 0) <|
    Store1 ⟨n28, 2, none⟩ (.bool b27) <|
    Store1 ⟨n28, 3, none⟩ (.slice none 0 0) <|
    F19_J2 k again10 x_18 out_19p out_19l out_19c s_20 ⟨n28, 0, none⟩ s21p s21l s21c x22 x23) (
    New [.int .i64 0, .slice none 0 0, .bool false, .slice none 0 0] 28 fun n78 =>
    Chk1 (s_20.add 1) (.slice s24p s24l s24c) <|
    CallT Go.Proofs.Try.prog 36 [.pointer x_18, .slice s26p s26l s26c] (.s (.one .bool)) fun b79 =>
    Chk1 (s_20.add 1) (.slice s24p s24l s24c) <|
    Store1 ⟨n78, 0, none⟩ (.int .i64 x25) <|
    Store1 ⟨n78, 1, none⟩ (.slice none 0 0) <|
    Store1 ⟨n78, 2, none⟩ (.bool b79) <|
    Store1 ⟨n78, 3, none⟩ (.slice none 0 0) <|
    F19_J2 k again10 x_18 out_19p out_19l out_19c s_20 ⟨n78, 0, none⟩ s21p s21l s21c x22 x23)) (
   New [.int .i64 0, .slice none 0 0, .bool false, .slice none 0 0] 28 fun n80 =>
   Chk1 (s_20.add 1) (.slice s24p s24l s24c) <|
   CallT Go.Proofs.Try.prog 31 [.slice s24p s24l s24c] (.s (.one .slice)) fun s81p s81l s81c =>
   CallT Go.Proofs.Try.prog 36 [.pointer x_18, .slice s81p s81l s81c] (.s (.one .bool)) fun b82 =>
   Chk1 (s_20.add 1) (.slice s24p s24l s24c) <|
   Store1 ⟨n80, 0, none⟩ (.int .i64 x25) <|
   Store1 ⟨n80, 1, none⟩ (.slice none 0 0) <|
   Store1 ⟨n80, 2, none⟩ (.bool b82) <|
   Store1 ⟨n80, 3, none⟩ (.slice none 0 0) <|
   F19_J2 k again10 x_18 out_19p out_19l out_19c s_20 ⟨n80, 0, none⟩ s21p s21l s21c x22 x23)) (
  New [.int .i64 0, .slice none 0 0, .bool false, .slice none 0 0] 28 fun n83 =>
  Chk1 (s_20.add 1) (.slice s24p s24l s24c) <|
  CallT Go.Proofs.Try.prog 35 [.pointer x_18] (.s (.one (.int .i64))) fun x84 =>
  Chk1 (s_20.add 1) (.slice s24p s24l s24c) <|
  CallT Go.Proofs.Try.prog 31 [.slice s24p s24l s24c] (.s (.one .slice)) fun s85p s85l s85c =>
  CallT Go.Proofs.Try.prog 36 [.pointer x_18, .slice s85p s85l s85c] (.s (.one .bool)) fun b86 =>
  Chk1 (s_20.add 1) (.slice s24p s24l s24c) <|
  Store1 ⟨n83, 0, none⟩ (.int .i64 x84) <|
  Store1 ⟨n83, 1, none⟩ (.slice none 0 0) <|
  Store1 ⟨n83, 2, none⟩ (.bool b86) <|
  Store1 ⟨n83, 3, none⟩ (.slice none 0 0) <|
  F19_J2 k again10 x_18 out_19p out_19l out_19c s_20 ⟨n83, 0, none⟩ s21p s21l s21c x22 x23)
def F19_L1 (k : Value → W) (again10 : Option Addr → Option Addr → Nat → Nat → Option Addr → Nat → Nat → Int → Int → W) (x_5 : Option Addr) (out_6p : Option Addr) (out_6l : Nat) (out_6c : Nat) (s7p : Option Addr) (s7l : Nat) (s7c : Nat) (x8 : Int) (x9 : Int) : W :=
 BIf (decide (x9 < x8)) (
  NN s7p fun a11 =>
  Req (0 ≤ x9 ∧ x9 < ((s7l : Nat) : Int)) <|
  LoadT (.int .i64) ((a11.add (x9.toNat * 2)).add 0) fun x12 =>
  LoadT .slice ((a11.add (x9.toNat * 2)).add 1) fun s13p s13l s13c =>
  New [.int .i64 0, .slice none 0 0] 32 fun n14 =>
  Store1 ⟨n14, 0, none⟩ (.int .i64 x12) <|
  Store1 ⟨n14, 1, none⟩ (.slice s13p s13l s13c) <|
  LoadT (.int .i64) ⟨n14, 0, none⟩ fun x15 =>
  BIf (x15 == 1) (
   LoadT .slice ⟨n14, 1, none⟩ fun s16p s16l s16c =>
   CallT Go.Proofs.Try.prog 31 [.slice s16p s16l s16c] (.s (.one .slice)) fun s17p s17l s17c =>
   CallT Go.Proofs.Try.prog 32 [.pointer x_5, .slice s17p s17l s17c] (.tup []) <|
   F19_J1 k again10 x_5 out_6p out_6l out_6c ⟨n14, 0, none⟩ s7p s7l s7c x8 x9) (
   BIf (x15 == 2) (
    LoadT .slice ⟨n14, 1, none⟩ fun s87p s87l s87c =>
    CallT Go.Proofs.Try.prog 31 [.slice s87p s87l s87c] (.s (.one .slice)) fun s88p s88l s88c =>
    CallT Go.Proofs.Try.prog 33 [.pointer x_5, .slice s88p s88l s88c] (.tup []) <|
    F19_J1 k again10 x_5 out_6p out_6l out_6c ⟨n14, 0, none⟩ s7p s7l s7c x8 x9) (
    BIf (x15 == 3) (
     CallT Go.Proofs.Try.prog 34 [.pointer x_5] (.tup []) <|
     F19_J1 k again10 x_5 out_6p out_6l out_6c ⟨n14, 0, none⟩ s7p s7l s7c x8 x9) (
     F19_J1 k again10 x_5 out_6p out_6l out_6c ⟨n14, 0, none⟩ s7p s7l s7c x8 x9)))) (
  k (.slice out_6p out_6l out_6c))
theorem F19_L1_rule {k : Value → W} (I : Option Addr → Option Addr → Nat → Nat → Option Addr → Nat → Nat → Int → Int → W) (μ : Option Addr → Option Addr → Nat → Nat → Option Addr → Nat → Nat → Int → Int → World → Nat)
  (hr : ∀ (x_5 : Option Addr) (out_6p : Option Addr) (out_6l : Nat) (out_6c : Nat) (s7p : Option Addr) (s7l : Nat) (s7c : Nat) (x8 : Int) (x9 : Int) (w : World), I x_5 out_6p out_6l out_6c s7p s7l s7c x8 x9 w → F19_L1 k (fun x_5' out_6p' out_6l' out_6c' s7p' s7l' s7c' x8' x9' w' => I x_5' out_6p' out_6l' out_6c' s7p' s7l' s7c' x8' x9' w' ∧ μ x_5' out_6p' out_6l' out_6c' s7p' s7l' s7c' x8' x9' w' < μ x_5 out_6p out_6l out_6c s7p s7l s7c x8 x9 w) x_5 out_6p out_6l out_6c s7p s7l s7c x8 x9 w)
  {w : World} {x_5 : Option Addr} {out_6p : Option Addr} {out_6l : Nat} {out_6c : Nat} {s7p : Option Addr} {s7l : Nat} {s7c : Nat} {x8 : Int} {x9 : Int} (h : I x_5 out_6p out_6l out_6c s7p s7l s7c x8 x9 w) : Loop [.ptr, .slice, .slice, (.int .i64), (.int .i64)] (F19_L1 k) x_5 out_6p out_6l out_6c s7p s7l s7c x8 x9 w :=
  Loop_intro (ts := [.ptr, .slice, .slice, (.int .i64), (.int .i64)]) (s := (x_5, (out_6p, out_6l, out_6c), (s7p, s7l, s7c), x8, x9, ())) (fun s w => I s.1 s.2.1.1 s.2.1.2.1 s.2.1.2.2 s.2.2.1.1 s.2.2.1.2.1 s.2.2.1.2.2 s.2.2.2.1 s.2.2.2.2.1 w) (fun s w => μ s.1 s.2.1.1 s.2.1.2.1 s.2.1.2.2 s.2.2.1.1 s.2.2.1.2.1 s.2.2.1.2.2 s.2.2.2.1 s.2.2.2.2.1 w) h (fun s w h => hr s.1 s.2.1.1 s.2.1.2.1 s.2.1.2.2 s.2.2.1.1 s.2.2.1.2.1 s.2.2.1.2.2 s.2.2.2.1 s.2.2.2.2.1 w h)
def F19 (k : Value → W) (first_1p : Option Addr) (first_1l : Nat) (first_1c : Nat) (steps_2p : Option Addr) (steps_2l : Nat) (steps_2c : Nat) : W :=
 CallT Go.Proofs.Try.prog 31 [.slice first_1p first_1l first_1c] (.s (.one .slice)) fun s3p s3l s3c =>
 CallT Go.Proofs.Try.prog 30 [.slice s3p s3l s3c] (.s (.one .ptr)) fun p4 =>
 Loop [.ptr, .slice, .slice, (.int .i64), (.int .i64)] (F19_L1 k) p4 none 0 0 steps_2p steps_2l steps_2c ((steps_2l : Nat) : Int) 0
theorem F19_eq (k : Value → W) (first_1p : Option Addr) (first_1l : Nat) (first_1c : Nat) (steps_2p : Option Addr) (steps_2l : Nat) (steps_2c : Nat) : compF Go.Proofs.Try.prog Go.Proofs.Try.f19 [(4, [(5, .ptr), (6, .slice), (17, .slice), (18, (.int .i64)), (19, (.int .i64))]), (16, [(5, .ptr), (6, .slice), (8, .addr), (9, .addr), (17, .slice), (18, (.int .i64)), (19, (.int .i64)), (54, .slice), (55, (.int .i64)), (56, (.int .i64))]), (21, [(5, .ptr), (6, .slice), (9, .addr), (17, .slice), (18, (.int .i64)), (19, (.int .i64)), (69, .slice), (70, (.int .i64)), (71, (.int .i64))])] (Go.Proofs.Try.f19.body.getD .skip) [.slice first_1p first_1l first_1c, .slice steps_2p steps_2l steps_2c] k = F19 k first_1p first_1l first_1c steps_2p steps_2l steps_2c := by kernel_rfl
theorem F19_calls {first_1p : Option Addr} {first_1l : Nat} {first_1c : Nat} {steps_2p : Option Addr} {steps_2l : Nat} {steps_2c : Nat} {w : World} {R : Ending → World → Prop} (h : F19 (fun v w => R (.returned v) w) first_1p first_1l first_1c steps_2p steps_2l steps_2c w) : Calls Go.Proofs.Try.prog 19 #[.slice first_1p first_1l first_1c, .slice steps_2p steps_2l steps_2c] w R :=
  calls_of_compF noNum follows [(4, [(5, .ptr), (6, .slice), (17, .slice), (18, (.int .i64)), (19, (.int .i64))]), (16, [(5, .ptr), (6, .slice), (8, .addr), (9, .addr), (17, .slice), (18, (.int .i64)), (19, (.int .i64)), (54, .slice), (55, (.int .i64)), (56, (.int .i64))]), (21, [(5, .ptr), (6, .slice), (9, .addr), (17, .slice), (18, (.int .i64)), (19, (.int .i64)), (69, .slice), (70, (.int .i64)), (71, (.int .i64))])] (f := 19) (fn := Go.Proofs.Try.f19) (body := Go.Proofs.Try.f19.body.getD .skip) (args := [.slice first_1p first_1l first_1c, .slice steps_2p steps_2l steps_2c]) rfl rfl (Nat.le_of_ble_eq_true rfl) ((congrFun (F19_eq _ first_1p first_1l first_1c steps_2p steps_2l steps_2c) w).mpr h)
theorem F19_call {first_1p : Option Addr} {first_1l : Nat} {first_1c : Nat} {steps_2p : Option Addr} {steps_2l : Nat} {steps_2c : Nat} {w : World} {g : Fn W (RTy.leaves (.s (.one .slice)))} (h : F19 (fun v => Back (.s (.one .slice)) g (.returned v)) first_1p first_1l first_1c steps_2p steps_2l steps_2c w) : CallT Go.Proofs.Try.prog 19 [.slice first_1p first_1l first_1c, .slice steps_2p steps_2l steps_2c] (.s (.one .slice)) g w := F19_calls h

/-! ## laws.dsSaid -/
def F9_J1 (k : Value → W) (first_8p : Option Addr) (first_8l : Nat) (first_8c : Nat) (steps_9p : Option Addr) (steps_9l : Nat) (steps_9c : Nat) (a10 : Addr) (b11 : Bool) : W :=
 BIf b11 (
  Store1 (a10.add 0) (.int .i64 0) <|
  Store1 (a10.add 1) (.slice none 0 0) <|
  Store1 (a10.add 2) (.bool false) <|
  Store1 (a10.add 3) (.slice none 0 0) <|
  LoadT (.int .i64) (a10.add 0) fun x12 =>
  LoadT .slice (a10.add 1) fun s13p s13l s13c =>
  LoadT .bool (a10.add 2) fun b14 =>
  LoadT .slice (a10.add 3) fun s15p s15l s15c =>
  k (.tuple #[.agg #[.int .i64 x12, .slice s13p s13l s13c, .bool b14, .slice s15p s15l s15c], .bool false])) (
  CallT Go.Proofs.Try.prog 19 [.slice first_8p first_8l first_8c, .slice steps_9p steps_9l steps_9c] (.s (.one .slice)) fun s16p s16l s16c =>
  BIf (((s16l : Nat) : Int) != ((steps_9l : Nat) : Int)) (
   Store1 (a10.add 0) (.int .i64 0) <|
   Store1 (a10.add 1) (.slice none 0 0) <|
   Store1 (a10.add 2) (.bool false) <|
   Store1 (a10.add 3) (.slice none 0 0) <|
   LoadT (.int .i64) (a10.add 0) fun x17 =>
   LoadT .slice (a10.add 1) fun s18p s18l s18c =>
   LoadT .bool (a10.add 2) fun b19 =>
   LoadT .slice (a10.add 3) fun s20p s20l s20c =>
   k (.tuple #[.agg #[.int .i64 x17, .slice s18p s18l s18c, .bool b19, .slice s20p s20l s20c], .bool false])) (
   NN s16p fun a21 =>
   Req (0 ≤ subI .i64 ((s16l : Nat) : Int) 1 ∧ subI .i64 ((s16l : Nat) : Int) 1 < ((s16l : Nat) : Int)) <|
   LoadT (.int .i64) ((a21.add ((subI .i64 ((s16l : Nat) : Int) 1).toNat * 4)).add 0) fun x22 =>
   LoadT .slice ((a21.add ((subI .i64 ((s16l : Nat) : Int) 1).toNat * 4)).add 1) fun s23p s23l s23c =>
   LoadT .bool ((a21.add ((subI .i64 ((s16l : Nat) : Int) 1).toNat * 4)).add 2) fun b24 =>
   LoadT .slice ((a21.add ((subI .i64 ((s16l : Nat) : Int) 1).toNat * 4)).add 3) fun s25p s25l s25c =>
   Store1 (a10.add 0) (.int .i64 x22) <|
   Store1 (a10.add 1) (.slice s23p s23l s23c) <|
   Store1 (a10.add 2) (.bool b24) <|
   Store1 (a10.add 3) (.slice s25p s25l s25c) <|
   LoadT (.int .i64) (a10.add 0) fun x26 =>
   LoadT .slice (a10.add 1) fun s27p s27l s27c =>
   LoadT .bool (a10.add 2) fun b28 =>
   LoadT .slice (a10.add 3) fun s29p s29l s29c =>
   k (.tuple #[.agg #[.int .i64 x26, .slice s27p s27l s27c, .bool b28, .slice s29p s29l s29c], .bool true])))
def F9 (k : Value → W) (first_1p : Option Addr) (first_1l : Nat) (first_1c : Nat) (steps_2p : Option Addr) (steps_2l : Nat) (steps_2c : Nat) : W :=
 New [.int .i64 0, .slice none 0 0, .bool false, .slice none 0 0] 28 fun n3 =>
 RawT Go.Proofs.Try.prog (Instr.buildSlice 24 3 [(0, .int .i64 4), (1, .int .i64 9), (2, .int .i64 4)].toArray) (.s (.one .slice)) fun s4p s4l s4c =>
 RawT Go.Proofs.Try.prog (Instr.buildSlice 24 1 [(0, .int .i64 9)].toArray) (.s (.one .slice)) fun s5p s5l s5c =>
 RawT Go.Proofs.Try.prog (Instr.buildSlice 33 1 [(0, .agg #[.int .i64 2, .slice s5p s5l s5c])].toArray) (.s (.one .slice)) fun s6p s6l s6c =>
 CallT Go.Proofs.Try.prog 19 [.slice s4p s4l s4c, .slice s6p s6l s6c] (.s (.one .slice)) fun s7p s7l s7c =>
 BIf (((s7l : Nat) : Int) != 1) (
  F9_J1 k first_1p first_1l first_1c steps_2p steps_2l steps_2c ⟨n3, 0, none⟩ true) (
  NN s7p fun a30 =>
  Req (0 ≤ (0 : Int) ∧ (0 : Int) < ((s7l : Nat) : Int)) <|
  LoadT (.int .i64) (a30.add ((0 : Int).toNat * 4)) fun x31 =>
  BIf (x31 != 1) (
   F9_J1 k first_1p first_1l first_1c steps_2p steps_2l steps_2c ⟨n3, 0, none⟩ true) (
   NN s7p fun a32 =>
   Req (0 ≤ (0 : Int) ∧ (0 : Int) < ((s7l : Nat) : Int)) <|
   LoadT .slice ((a32.add ((0 : Int).toNat * 4)).add 1) fun s33p s33l s33c =>
   RawT Go.Proofs.Try.prog (Instr.buildSlice 24 1 [(0, .int .i64 4)].toArray) (.s (.one .slice)) fun s34p s34l s34c =>
   CallT Go.Proofs.Try.prog 10 [.slice s33p s33l s33c, .slice s34p s34l s34c] (.s (.one .bool)) fun b35 =>
   BIf (!b35) (
    F9_J1 k first_1p first_1l first_1c steps_2p steps_2l steps_2c ⟨n3, 0, none⟩ true) (
    F9_J1 k first_1p first_1l first_1c steps_2p steps_2l steps_2c ⟨n3, 0, none⟩ (((steps_2l : Nat) : Int) == 0))))
theorem F9_eq (k : Value → W) (first_1p : Option Addr) (first_1l : Nat) (first_1c : Nat) (steps_2p : Option Addr) (steps_2l : Nat) (steps_2c : Nat) : compF Go.Proofs.Try.prog Go.Proofs.Try.f9 [] (Go.Proofs.Try.f9.body.getD .skip) [.slice first_1p first_1l first_1c, .slice steps_2p steps_2l steps_2c] k = F9 k first_1p first_1l first_1c steps_2p steps_2l steps_2c := by kernel_rfl
theorem F9_calls {first_1p : Option Addr} {first_1l : Nat} {first_1c : Nat} {steps_2p : Option Addr} {steps_2l : Nat} {steps_2c : Nat} {w : World} {R : Ending → World → Prop} (h : F9 (fun v w => R (.returned v) w) first_1p first_1l first_1c steps_2p steps_2l steps_2c w) : Calls Go.Proofs.Try.prog 9 #[.slice first_1p first_1l first_1c, .slice steps_2p steps_2l steps_2c] w R :=
  calls_of_compF noNum follows [] (f := 9) (fn := Go.Proofs.Try.f9) (body := Go.Proofs.Try.f9.body.getD .skip) (args := [.slice first_1p first_1l first_1c, .slice steps_2p steps_2l steps_2c]) rfl rfl (Nat.le_of_ble_eq_true rfl) ((congrFun (F9_eq _ first_1p first_1l first_1c steps_2p steps_2l steps_2c) w).mpr h)
theorem F9_call {first_1p : Option Addr} {first_1l : Nat} {first_1c : Nat} {steps_2p : Option Addr} {steps_2l : Nat} {steps_2c : Nat} {w : World} {g : Fn W (RTy.leaves (.tup [(.agg [(.int .i64), .slice, .bool, .slice]), (.one .bool)]))} (h : F9 (fun v => Back (.tup [(.agg [(.int .i64), .slice, .bool, .slice]), (.one .bool)]) g (.returned v)) first_1p first_1l first_1c steps_2p steps_2l steps_2c w) : CallT Go.Proofs.Try.prog 9 [.slice first_1p first_1l first_1c, .slice steps_2p steps_2l steps_2c] (.tup [(.agg [(.int .i64), .slice, .bool, .slice]), (.one .bool)]) g w := F9_calls h

/-! ## slices.Clone[[]int,int] -/
def F20 (k : Value → W) (s_1p : Option Addr) (s_1l : Nat) (s_1c : Nat) : W :=
 BIf s_1p.isNone (
  k (.slice none 0 0)) (
  RawT Go.Proofs.Try.prog (Instr.buildSlice 24 0 [].toArray) (.s (.one .slice)) fun s2p s2l s2c =>
  NextT Go.Proofs.Try.prog (builtin .append #[24, 24] 24 [false, false].toArray [.slice s2p s2l s2c, .slice s_1p s_1l s_1c].toArray) (.s (.one .slice)) fun s3p s3l s3c =>
  k (.slice s3p s3l s3c))
theorem F20_eq (k : Value → W) (s_1p : Option Addr) (s_1l : Nat) (s_1c : Nat) : compF Go.Proofs.Try.prog Go.Proofs.Try.f20 [] (Go.Proofs.Try.f20.body.getD .skip) [.slice s_1p s_1l s_1c] k = F20 k s_1p s_1l s_1c := by kernel_rfl
theorem F20_calls {s_1p : Option Addr} {s_1l : Nat} {s_1c : Nat} {w : World} {R : Ending → World → Prop} (h : F20 (fun v w => R (.returned v) w) s_1p s_1l s_1c w) : Calls Go.Proofs.Try.prog 20 #[.slice s_1p s_1l s_1c] w R :=
  calls_of_compF noNum follows [] (f := 20) (fn := Go.Proofs.Try.f20) (body := Go.Proofs.Try.f20.body.getD .skip) (args := [.slice s_1p s_1l s_1c]) rfl rfl (Nat.le_of_ble_eq_true rfl) ((congrFun (F20_eq _ s_1p s_1l s_1c) w).mpr h)
theorem F20_call {s_1p : Option Addr} {s_1l : Nat} {s_1c : Nat} {w : World} {g : Fn W (RTy.leaves (.s (.one .slice)))} (h : F20 (fun v => Back (.s (.one .slice)) g (.returned v)) s_1p s_1l s_1c w) : CallT Go.Proofs.Try.prog 20 [.slice s_1p s_1l s_1c] (.s (.one .slice)) g w := F20_calls h

/-! ## laws.dxSorted -/
def F11 (k : Value → W) (l_1p : Option Addr) (l_1l : Nat) (l_1c : Nat) : W :=
 CallT Go.Proofs.Try.prog 20 [.slice l_1p l_1l l_1c] (.s (.one .slice)) fun s2p s2l s2c =>
 CallT Go.Proofs.Try.prog 21 [.slice s2p s2l s2c] (.tup []) <|
 k (.slice s2p s2l s2c)
theorem F11_eq (k : Value → W) (l_1p : Option Addr) (l_1l : Nat) (l_1c : Nat) : compF Go.Proofs.Try.prog Go.Proofs.Try.f11 [] (Go.Proofs.Try.f11.body.getD .skip) [.slice l_1p l_1l l_1c] k = F11 k l_1p l_1l l_1c := by kernel_rfl
theorem F11_calls {l_1p : Option Addr} {l_1l : Nat} {l_1c : Nat} {w : World} {R : Ending → World → Prop} (h : F11 (fun v w => R (.returned v) w) l_1p l_1l l_1c w) : Calls Go.Proofs.Try.prog 11 #[.slice l_1p l_1l l_1c] w R :=
  calls_of_compF noNum follows [] (f := 11) (fn := Go.Proofs.Try.f11) (body := Go.Proofs.Try.f11.body.getD .skip) (args := [.slice l_1p l_1l l_1c]) rfl rfl (Nat.le_of_ble_eq_true rfl) ((congrFun (F11_eq _ l_1p l_1l l_1c) w).mpr h)
theorem F11_call {l_1p : Option Addr} {l_1l : Nat} {l_1c : Nat} {w : World} {g : Fn W (RTy.leaves (.s (.one .slice)))} (h : F11 (fun v => Back (.s (.one .slice)) g (.returned v)) l_1p l_1l l_1c w) : CallT Go.Proofs.Try.prog 11 [.slice l_1p l_1l l_1c] (.s (.one .slice)) g w := F11_calls h

/-! ## laws.FnSTOnce -/
def F3 (k : Value → W) (l_1p : Option Addr) (l_1l : Nat) (l_1c : Nat) (m_2p : Option Addr) (m_2l : Nat) (m_2c : Nat) : W :=
 BIf (decide (((l_1l : Nat) : Int) > 2147483647)) (
  k (.bool true)) (
  BIf (decide (((m_2l : Nat) : Int) > 2147483647)) (
   k (.bool true)) (
   CallT Go.Proofs.Try.prog 7 [.slice l_1p l_1l l_1c] (.s (.one .bool)) fun b3 =>
   BIf (!b3) (
    k (.bool true)) (
    CallT Go.Proofs.Try.prog 7 [.slice m_2p m_2l m_2c] (.s (.one .bool)) fun b4 =>
    BIf (!b4) (
     k (.bool true)) (
     BIf (decide (((l_1l : Nat) : Int) > 20)) (
      k (.bool true)) (
      BIf (decide (((m_2l : Nat) : Int) > 20)) (
       k (.bool true)) (
       CallT Go.Proofs.Try.prog 8 [.slice l_1p l_1l l_1c] (.s (.one .slice)) fun s5p s5l s5c =>
       CallT Go.Proofs.Try.prog 8 [.slice m_2p m_2l m_2c] (.s (.one .slice)) fun s6p s6l s6c =>
       RawT Go.Proofs.Try.prog (Instr.buildSlice 33 1 [(0, .agg #[.int .i64 2, .slice s6p s6l s6c])].toArray) (.s (.one .slice)) fun s7p s7l s7c =>
       CallT Go.Proofs.Try.prog 9 [.slice s5p s5l s5c, .slice s7p s7l s7c] (.tup [(.agg [(.int .i64), .slice, .bool, .slice]), (.one .bool)]) fun x8 s9p s9l s9c b10 s11p s11l s11c b12 =>
       New [.int .i64 0, .slice none 0 0, .bool false, .slice none 0 0] 28 fun n13 =>
       Store1 ⟨n13, 0, none⟩ (.int .i64 x8) <|
       Store1 ⟨n13, 1, none⟩ (.slice s9p s9l s9c) <|
       Store1 ⟨n13, 2, none⟩ (.bool b10) <|
       Store1 ⟨n13, 3, none⟩ (.slice s11p s11l s11c) <|
       RawT Go.Proofs.Try.prog (Instr.buildSlice 33 3 [(0, .agg #[.int .i64 1, .slice s5p s5l s5c]), (1, .agg #[.int .i64 2, .slice s6p s6l s6c]), (2, .agg #[.int .i64 2, .slice s6p s6l s6c])].toArray) (.s (.one .slice)) fun s14p s14l s14c =>
       CallT Go.Proofs.Try.prog 9 [.slice s5p s5l s5c, .slice s14p s14l s14c] (.tup [(.agg [(.int .i64), .slice, .bool, .slice]), (.one .bool)]) fun x15 s16p s16l s16c b17 s18p s18l s18c b19 =>
       New [.int .i64 0, .slice none 0 0, .bool false, .slice none 0 0] 28 fun n20 =>
       Store1 ⟨n20, 0, none⟩ (.int .i64 x15) <|
       Store1 ⟨n20, 1, none⟩ (.slice s16p s16l s16c) <|
       Store1 ⟨n20, 2, none⟩ (.bool b17) <|
       Store1 ⟨n20, 3, none⟩ (.slice s18p s18l s18c) <|
       Drw <|
       BIf b12 (
        BIf b19 (
         LoadT (.int .i64) ⟨n13, 0, none⟩ fun x21 =>
         LoadT (.int .i64) ⟨n20, 0, none⟩ fun x22 =>
         BIf (x21 == x22) (
          LoadT .slice ⟨n13, 1, none⟩ fun s23p s23l s23c =>
          LoadT .slice ⟨n20, 1, none⟩ fun s24p s24l s24c =>
          CallT Go.Proofs.Try.prog 11 [.slice s23p s23l s23c] (.s (.one .slice)) fun s25p s25l s25c =>
          Chk1 ⟨n20, 1, none⟩ (.slice s24p s24l s24c) <|
          Chk1 ⟨n20, 0, none⟩ (.int .i64 x22) <|
          Chk1 ⟨n13, 0, none⟩ (.int .i64 x21) <|
          CallT Go.Proofs.Try.prog 11 [.slice s24p s24l s24c] (.s (.one .slice)) fun s26p s26l s26c =>
          Chk1 ⟨n13, 1, none⟩ (.slice s23p s23l s23c) <|
          Chk1 ⟨n20, 0, none⟩ (.int .i64 x22) <|
          Chk1 ⟨n13, 0, none⟩ (.int .i64 x21) <|
          CallT Go.Proofs.Try.prog 10 [.slice s25p s25l s25c, .slice s26p s26l s26c] (.s (.one .bool)) fun b27 =>
          Chk1 ⟨n20, 1, none⟩ (.slice s24p s24l s24c) <|
          Chk1 ⟨n13, 1, none⟩ (.slice s23p s23l s23c) <|
          Chk1 ⟨n20, 0, none⟩ (.int .i64 x22) <|
          Chk1 ⟨n13, 0, none⟩ (.int .i64 x21) <|
          k (.bool b27)) (
          k (.bool false))) (
         k (.bool false))) (
        k (.bool false))))))))
theorem F3_eq (k : Value → W) (l_1p : Option Addr) (l_1l : Nat) (l_1c : Nat) (m_2p : Option Addr) (m_2l : Nat) (m_2c : Nat) : compF Go.Proofs.Try.prog Go.Proofs.Try.f3 [] (Go.Proofs.Try.f3.body.getD .skip) [.slice l_1p l_1l l_1c, .slice m_2p m_2l m_2c] k = F3 k l_1p l_1l l_1c m_2p m_2l m_2c := by kernel_rfl
theorem F3_calls {l_1p : Option Addr} {l_1l : Nat} {l_1c : Nat} {m_2p : Option Addr} {m_2l : Nat} {m_2c : Nat} {w : World} {R : Ending → World → Prop} (h : F3 (fun v w => R (.returned v) w) l_1p l_1l l_1c m_2p m_2l m_2c w) : Calls Go.Proofs.Try.prog 3 #[.slice l_1p l_1l l_1c, .slice m_2p m_2l m_2c] w R :=
  calls_of_compF noNum follows [] (f := 3) (fn := Go.Proofs.Try.f3) (body := Go.Proofs.Try.f3.body.getD .skip) (args := [.slice l_1p l_1l l_1c, .slice m_2p m_2l m_2c]) rfl rfl (Nat.le_of_ble_eq_true rfl) ((congrFun (F3_eq _ l_1p l_1l l_1c m_2p m_2l m_2c) w).mpr h)
theorem F3_call {l_1p : Option Addr} {l_1l : Nat} {l_1c : Nat} {m_2p : Option Addr} {m_2l : Nat} {m_2c : Nat} {w : World} {g : Fn W (RTy.leaves (.s (.one .bool)))} (h : F3 (fun v => Back (.s (.one .bool)) g (.returned v)) l_1p l_1l l_1c m_2p m_2l m_2c w) : CallT Go.Proofs.Try.prog 3 [.slice l_1p l_1l l_1c, .slice m_2p m_2l m_2c] (.s (.one .bool)) g w := F3_calls h

end Go.Proofs.Ytokejbejoegnnaa.E
