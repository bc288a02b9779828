/-
  Printed by this session's own program eng.py out of Lean's print of the loaded functions: what each function's body asks, in the engine's words; each is checked against the program by the kernel.
-/
import Derived.Test.YtmaejciimpnogaaDoorEng
import Derived.Test.YtmaejciimpnogaaDoorProg
namespace Go.Proofs.YtmaejciimpnogaaDoor.E
open Go
set_option linter.unusedVariables false
set_option maxRecDepth 100000
theorem noNum : NoNum Go.Proofs.Tryd.prog := noNum_of (by kernel_rfl)
theorem follows : (Go.Proofs.Tryd.prog).follows .mixedOrders = true := by kernel_rfl

/-! ## strconv.small -/
def F32 (k : Value → W) (i_1 : Int) : W :=
 BIf (decide (i_1 < 10)) (
  Req (0 ≤ addI .i64 i_1 1 ∧ addI .i64 i_1 1 ≤ (((⟨#[48, 49, 50, 51, 52, 53, 54, 55, 56, 57, 97, 98, 99, 100, 101, 102, 103, 104, 105, 106, 107, 108, 109, 110, 111, 112, 113, 114, 115, 116, 117, 118, 119, 120, 121, 122]⟩ : ByteArray).size : Nat) : Int)) <|
  Req (0 ≤ i_1 ∧ i_1 ≤ (((addI .i64 i_1 1).toNat : Nat) : Int)) <|
  k (.string ((⟨#[48, 49, 50, 51, 52, 53, 54, 55, 56, 57, 97, 98, 99, 100, 101, 102, 103, 104, 105, 106, 107, 108, 109, 110, 111, 112, 113, 114, 115, 116, 117, 118, 119, 120, 121, 122]⟩ : ByteArray).extract i_1.toNat ((addI .i64 i_1 1).toNat)))) (
  Req (0 ≤ addI .i64 (mulI .i64 i_1 2) 2 ∧ addI .i64 (mulI .i64 i_1 2) 2 ≤ (((⟨#[48, 48, 48, 49, 48, 50, 48, 51, 48, 52, 48, 53, 48, 54, 48, 55, 48, 56, 48, 57, 49, 48, 49, 49, 49, 50, 49, 51, 49, 52, 49, 53, 49, 54, 49, 55, 49, 56, 49, 57, 50, 48, 50, 49, 50, 50, 50, 51, 50, 52, 50, 53, 50, 54, 50, 55, 50, 56, 50, 57, 51, 48, 51, 49, 51, 50, 51, 51, 51, 52, 51, 53, 51, 54, 51, 55, 51, 56, 51, 57, 52, 48, 52, 49, 52, 50, 52, 51, 52, 52, 52, 53, 52, 54, 52, 55, 52, 56, 52, 57, 53, 48, 53, 49, 53, 50, 53, 51, 53, 52, 53, 53, 53, 54, 53, 55, 53, 56, 53, 57, 54, 48, 54, 49, 54, 50, 54, 51, 54, 52, 54, 53, 54, 54, 54, 55, 54, 56, 54, 57, 55, 48, 55, 49, 55, 50, 55, 51, 55, 52, 55, 53, 55, 54, 55, 55, 55, 56, 55, 57, 56, 48, 56, 49, 56, 50, 56, 51, 56, 52, 56, 53, 56, 54, 56, 55, 56, 56, 56, 57, 57, 48, 57, 49, 57, 50, 57, 51, 57, 52, 57, 53, 57, 54, 57, 55, 57, 56, 57, 57]⟩ : ByteArray).size : Nat) : Int)) <|
  Req (0 ≤ mulI .i64 i_1 2 ∧ mulI .i64 i_1 2 ≤ (((addI .i64 (mulI .i64 i_1 2) 2).toNat : Nat) : Int)) <|
  k (.string ((⟨#[48, 48, 48, 49, 48, 50, 48, 51, 48, 52, 48, 53, 48, 54, 48, 55, 48, 56, 48, 57, 49, 48, 49, 49, 49, 50, 49, 51, 49, 52, 49, 53, 49, 54, 49, 55, 49, 56, 49, 57, 50, 48, 50, 49, 50, 50, 50, 51, 50, 52, 50, 53, 50, 54, 50, 55, 50, 56, 50, 57, 51, 48, 51, 49, 51, 50, 51, 51, 51, 52, 51, 53, 51, 54, 51, 55, 51, 56, 51, 57, 52, 48, 52, 49, 52, 50, 52, 51, 52, 52, 52, 53, 52, 54, 52, 55, 52, 56, 52, 57, 53, 48, 53, 49, 53, 50, 53, 51, 53, 52, 53, 53, 53, 54, 53, 55, 53, 56, 53, 57, 54, 48, 54, 49, 54, 50, 54, 51, 54, 52, 54, 53, 54, 54, 54, 55, 54, 56, 54, 57, 55, 48, 55, 49, 55, 50, 55, 51, 55, 52, 55, 53, 55, 54, 55, 55, 55, 56, 55, 57, 56, 48, 56, 49, 56, 50, 56, 51, 56, 52, 56, 53, 56, 54, 56, 55, 56, 56, 56, 57, 57, 48, 57, 49, 57, 50, 57, 51, 57, 52, 57, 53, 57, 54, 57, 55, 57, 56, 57, 57]⟩ : ByteArray).extract ((mulI .i64 i_1 2).toNat) ((addI .i64 (mulI .i64 i_1 2) 2).toNat))))
theorem F32_eq (k : Value → W) (i_1 : Int) : compF Go.Proofs.Tryd.prog Go.Proofs.Tryd.f32 [] (Go.Proofs.Tryd.f32.body.getD .skip) [.int .i64 i_1] k = F32 k i_1 := by kernel_rfl
theorem F32_calls {i_1 : Int} {w : World} {R : Ending → World → Prop} (h : F32 (fun v w => R (.returned v) w) i_1 w) : Calls Go.Proofs.Tryd.prog 32 #[.int .i64 i_1] w R :=
  calls_of_compF noNum follows [] (f := 32) (fn := Go.Proofs.Tryd.f32) (body := Go.Proofs.Tryd.f32.body.getD .skip) (args := [.int .i64 i_1]) rfl rfl (Nat.le_of_ble_eq_true rfl) ((congrFun (F32_eq _ i_1) w).mpr h)
theorem F32_call {i_1 : Int} {w : World} {g : Fn W (RTy.leaves (.s (.one .str)))} (h : F32 (fun v => Back (.s (.one .str)) g (.returned v)) i_1 w) : CallT Go.Proofs.Tryd.prog 32 [.int .i64 i_1] (.s (.one .str)) g w := F32_calls h

/-! ## strconv.FormatInt -/
def F28_J2 (k : Value → W) (i_8 : Int) (a_9 : Addr) (u_10 : Int) : W :=
 CallT Go.Proofs.Tryd.prog 33 [.int .u64 u_10] (.s (.one (.int .i64))) fun x11 =>
 Req (0 ≤ addI .i64 1 x11 ∧ addI .i64 1 x11 ≤ ((24 : Nat) : Int)) <|
 Req (0 ≤ (1 : Int) ∧ (1 : Int) ≤ (((addI .i64 1 x11).toNat : Nat) : Int)) <|
 CallT Go.Proofs.Tryd.prog 34 [.slice (sliceA (some a_9) 1 24 1) (((addI .i64 1 x11).toNat) - 1) (24 - 1), .int .u64 u_10] (.tup []) <|
 BIf (decide (i_8 < 0)) (
  Req (0 ≤ (0 : Int) ∧ (0 : Int) < (24 : Int)) <|
  Store1 (a_9.add ((0 : Int).toNat)) (.int .u8 45) <|
  Req (0 ≤ addI .i64 1 x11 ∧ addI .i64 1 x11 ≤ ((24 : Nat) : Int)) <|
  RawT Go.Proofs.Tryd.prog (convert 92 9 (.slice (sliceA (some a_9) 0 24 1) (((addI .i64 1 x11).toNat) - 0) (24 - 0))) (.s (.one .str)) fun u12 =>
  k (.string u12)) (
  Req (0 ≤ addI .i64 1 x11 ∧ addI .i64 1 x11 ≤ ((24 : Nat) : Int)) <|
  Req (0 ≤ (1 : Int) ∧ (1 : Int) ≤ (((addI .i64 1 x11).toNat : Nat) : Int)) <|
  RawT Go.Proofs.Tryd.prog (convert 92 9 (.slice (sliceA (some a_9) 1 24 1) (((addI .i64 1 x11).toNat) - 1) (24 - 1))) (.s (.one .str)) fun u13 =>
  k (.string u13))
def F28_J1 (k : Value → W) (i_3 : Int) (b4 : Bool) : W :=
 BIf b4 (
  CallT Go.Proofs.Tryd.prog 32 [.int .i64 i_3] (.s (.one .str)) fun u5 =>
  k (.string u5)) (
  New [.int .u8 0, .int .u8 0, .int .u8 0, .int .u8 0, .int .u8 0, .int .u8 0, .int .u8 0, .int .u8 0, .int .u8 0, .int .u8 0, .int .u8 0, .int .u8 0, .int .u8 0, .int .u8 0, .int .u8 0, .int .u8 0, .int .u8 0, .int .u8 0, .int .u8 0, .int .u8 0, .int .u8 0, .int .u8 0, .int .u8 0, .int .u8 0] 89 fun n6 =>
  BIf (decide (i_3 < 0)) (
   Bind (subI .u64 0 (IntKind.wrap .u64 i_3) : Int) fun u_7 =>
   F28_J2 k i_3 ⟨n6, 0, none⟩ u_7) (
   F28_J2 k i_3 ⟨n6, 0, none⟩ (IntKind.wrap .u64 i_3)))
def F28 (k : Value → W) (i_1 : Int) (base_2 : Int) : W :=
 BIf (base_2 == 10) (
  BIf (decide ((0 : Int) ≤ i_1)) (
   F28_J1 k i_1 (decide (i_1 < 100))) (
   F28_J1 k i_1 false)) (
  CallT Go.Proofs.Tryd.prog 35 [.slice none 0 0, .int .u64 (IntKind.wrap .u64 i_1), .int .i64 base_2, .bool (decide (i_1 < 0)), .bool false] (.tup [(.one .slice), (.one .str)]) fun s14p s14l s14c u15 =>
  k (.string u15))
theorem F28_eq (k : Value → W) (i_1 : Int) (base_2 : Int) : compF Go.Proofs.Tryd.prog Go.Proofs.Tryd.f28 [] (Go.Proofs.Tryd.f28.body.getD .skip) [.int .i64 i_1, .int .i64 base_2] k = F28 k i_1 base_2 := by kernel_rfl
theorem F28_calls {i_1 : Int} {base_2 : Int} {w : World} {R : Ending → World → Prop} (h : F28 (fun v w => R (.returned v) w) i_1 base_2 w) : Calls Go.Proofs.Tryd.prog 28 #[.int .i64 i_1, .int .i64 base_2] w R :=
  calls_of_compF noNum follows [] (f := 28) (fn := Go.Proofs.Tryd.f28) (body := Go.Proofs.Tryd.f28.body.getD .skip) (args := [.int .i64 i_1, .int .i64 base_2]) rfl rfl (Nat.le_of_ble_eq_true rfl) ((congrFun (F28_eq _ i_1 base_2) w).mpr h)
theorem F28_call {i_1 : Int} {base_2 : Int} {w : World} {g : Fn W (RTy.leaves (.s (.one .str)))} (h : F28 (fun v => Back (.s (.one .str)) g (.returned v)) i_1 base_2 w) : CallT Go.Proofs.Tryd.prog 28 [.int .i64 i_1, .int .i64 base_2] (.s (.one .str)) g w := F28_calls h

/-! ## strconv.Itoa -/
def F24 (k : Value → W) (i_1 : Int) : W :=
 CallT Go.Proofs.Tryd.prog 28 [.int .i64 i_1, .int .i64 10] (.s (.one .str)) fun u2 =>
 k (.string u2)
theorem F24_eq (k : Value → W) (i_1 : Int) : compF Go.Proofs.Tryd.prog Go.Proofs.Tryd.f24 [] (Go.Proofs.Tryd.f24.body.getD .skip) [.int .i64 i_1] k = F24 k i_1 := by kernel_rfl
theorem F24_calls {i_1 : Int} {w : World} {R : Ending → World → Prop} (h : F24 (fun v w => R (.returned v) w) i_1 w) : Calls Go.Proofs.Tryd.prog 24 #[.int .i64 i_1] w R :=
  calls_of_compF noNum follows [] (f := 24) (fn := Go.Proofs.Tryd.f24) (body := Go.Proofs.Tryd.f24.body.getD .skip) (args := [.int .i64 i_1]) rfl rfl (Nat.le_of_ble_eq_true rfl) ((congrFun (F24_eq _ i_1) w).mpr h)
theorem F24_call {i_1 : Int} {w : World} {g : Fn W (RTy.leaves (.s (.one .str)))} (h : F24 (fun v => Back (.s (.one .str)) g (.returned v)) i_1 w) : CallT Go.Proofs.Tryd.prog 24 [.int .i64 i_1] (.s (.one .str)) g w := F24_calls h

/-! ## strconv.Itoa -/
def F13 (k : Value → W) (i_1 : Int) : W :=
 CallT Go.Proofs.Tryd.prog 24 [.int .i64 i_1] (.s (.one .str)) fun u2 =>
 k (.string u2)
theorem F13_eq (k : Value → W) (i_1 : Int) : compF Go.Proofs.Tryd.prog Go.Proofs.Tryd.f13 [] (Go.Proofs.Tryd.f13.body.getD .skip) [.int .i64 i_1] k = F13 k i_1 := by kernel_rfl
theorem F13_calls {i_1 : Int} {w : World} {R : Ending → World → Prop} (h : F13 (fun v w => R (.returned v) w) i_1 w) : Calls Go.Proofs.Tryd.prog 13 #[.int .i64 i_1] w R :=
  calls_of_compF noNum follows [] (f := 13) (fn := Go.Proofs.Tryd.f13) (body := Go.Proofs.Tryd.f13.body.getD .skip) (args := [.int .i64 i_1]) rfl rfl (Nat.le_of_ble_eq_true rfl) ((congrFun (F13_eq _ i_1) w).mpr h)
theorem F13_call {i_1 : Int} {w : World} {g : Fn W (RTy.leaves (.s (.one .str)))} (h : F13 (fun v => Back (.s (.one .str)) g (.returned v)) i_1 w) : CallT Go.Proofs.Tryd.prog 13 [.int .i64 i_1] (.s (.one .str)) g w := F13_calls h

/-! ## impl.keysOf -/
def F14_L1 (k : Value → W) (again6 : Option Addr → Nat → Nat → Option Addr → Nat → Nat → Int → Int → W) (out_2p : Option Addr) (out_2l : Nat) (out_2c : Nat) (s3p : Option Addr) (s3l : Nat) (s3c : Nat) (x4 : Int) (x5 : Int) : W :=
 BIf (decide (x5 < x4)) (
  NN s3p fun a7 =>
  Req (0 ≤ x5 ∧ x5 < ((s3l : Nat) : Int)) <|
  LoadT (.int .i64) (a7.add x5.toNat) fun x8 =>
  CallT Go.Proofs.Tryd.prog 13 [.int .i64 x8] (.s (.one .str)) fun u9 =>
  RawT Go.Proofs.Tryd.prog (Instr.buildSlice 56 1 [(0, .string u9)].toArray) (.s (.one .slice)) fun s10p s10l s10c =>
  NextT Go.Proofs.Tryd.prog (builtin .append #[56, 56] 56 [false, false].toArray [.slice out_2p out_2l out_2c, .slice s10p s10l s10c].toArray) (.s (.one .slice)) fun s11p s11l s11c =>
  again6 s11p s11l s11c s3p s3l s3c x4 (addI .i64 x5 1)) (
  k (.slice out_2p out_2l out_2c))
theorem F14_L1_rule {k : Value → W} (I : Option Addr → Nat → Nat → Option Addr → Nat → Nat → Int → Int → W) (μ : Option Addr → Nat → Nat → Option Addr → Nat → Nat → Int → Int → World → Nat)
  (hr : ∀ (out_2p : Option Addr) (out_2l : Nat) (out_2c : Nat) (s3p : Option Addr) (s3l : Nat) (s3c : Nat) (x4 : Int) (x5 : Int) (w : World), I out_2p out_2l out_2c s3p s3l s3c x4 x5 w → F14_L1 k (fun out_2p' out_2l' out_2c' s3p' s3l' s3c' x4' x5' w' => I out_2p' out_2l' out_2c' s3p' s3l' s3c' x4' x5' w' ∧ μ out_2p' out_2l' out_2c' s3p' s3l' s3c' x4' x5' w' < μ out_2p out_2l out_2c s3p s3l s3c x4 x5 w) out_2p out_2l out_2c s3p s3l s3c x4 x5 w)
  {w : World} {out_2p : Option Addr} {out_2l : Nat} {out_2c : Nat} {s3p : Option Addr} {s3l : Nat} {s3c : Nat} {x4 : Int} {x5 : Int} (h : I out_2p out_2l out_2c s3p s3l s3c x4 x5 w) : Loop [.slice, .slice, (.int .i64), (.int .i64)] (F14_L1 k) out_2p out_2l out_2c s3p s3l s3c x4 x5 w :=
  Loop_intro (ts := [.slice, .slice, (.int .i64), (.int .i64)]) (s := ((out_2p, out_2l, out_2c), (s3p, s3l, s3c), x4, x5, ())) (fun s w => I s.1.1 s.1.2.1 s.1.2.2 s.2.1.1 s.2.1.2.1 s.2.1.2.2 s.2.2.1 s.2.2.2.1 w) (fun s w => μ s.1.1 s.1.2.1 s.1.2.2 s.2.1.1 s.2.1.2.1 s.2.1.2.2 s.2.2.1 s.2.2.2.1 w) h (fun s w h => hr s.1.1 s.1.2.1 s.1.2.2 s.2.1.1 s.2.1.2.1 s.2.1.2.2 s.2.2.1 s.2.2.2.1 w h)
def F14 (k : Value → W) (l_1p : Option Addr) (l_1l : Nat) (l_1c : Nat) : W :=
 Loop [.slice, .slice, (.int .i64), (.int .i64)] (F14_L1 k) none 0 0 l_1p l_1l l_1c ((l_1l : Nat) : Int) 0
theorem F14_eq (k : Value → W) (l_1p : Option Addr) (l_1l : Nat) (l_1c : Nat) : compF Go.Proofs.Tryd.prog Go.Proofs.Tryd.f14 [(3, [(3, .slice), (6, .slice), (7, (.int .i64)), (8, (.int .i64))])] (Go.Proofs.Tryd.f14.body.getD .skip) [.slice l_1p l_1l l_1c] k = F14 k l_1p l_1l l_1c := by kernel_rfl
theorem F14_calls {l_1p : Option Addr} {l_1l : Nat} {l_1c : Nat} {w : World} {R : Ending → World → Prop} (h : F14 (fun v w => R (.returned v) w) l_1p l_1l l_1c w) : Calls Go.Proofs.Tryd.prog 14 #[.slice l_1p l_1l l_1c] w R :=
  calls_of_compF noNum follows [(3, [(3, .slice), (6, .slice), (7, (.int .i64)), (8, (.int .i64))])] (f := 14) (fn := Go.Proofs.Tryd.f14) (body := Go.Proofs.Tryd.f14.body.getD .skip) (args := [.slice l_1p l_1l l_1c]) rfl rfl (Nat.le_of_ble_eq_true rfl) ((congrFun (F14_eq _ l_1p l_1l l_1c) w).mpr h)
theorem F14_call {l_1p : Option Addr} {l_1l : Nat} {l_1c : Nat} {w : World} {g : Fn W (RTy.leaves (.s (.one .slice)))} (h : F14 (fun v => Back (.s (.one .slice)) g (.returned v)) l_1p l_1l l_1c w) : CallT Go.Proofs.Tryd.prog 14 [.slice l_1p l_1l l_1c] (.s (.one .slice)) g w := F14_calls h

/-! ## list.List).Init -/
def F27 (k : Value → W) (l_1 : Option Addr) : W :=
 NN l_1 fun a2 =>
 NN l_1 fun a3 =>
 Store1 a3 (.pointer (some a2)) <|
 NN l_1 fun a4 =>
 NN l_1 fun a5 =>
 Store1 (a5.add 1) (.pointer (some a4)) <|
 NN l_1 fun a6 =>
 Store1 (a6.add 4) (.int .i64 0) <|
 k (.pointer l_1)
theorem F27_eq (k : Value → W) (l_1 : Option Addr) : compF Go.Proofs.Tryd.prog Go.Proofs.Tryd.f27 [] (Go.Proofs.Tryd.f27.body.getD .skip) [.pointer l_1] k = F27 k l_1 := by kernel_rfl
theorem F27_calls {l_1 : Option Addr} {w : World} {R : Ending → World → Prop} (h : F27 (fun v w => R (.returned v) w) l_1 w) : Calls Go.Proofs.Tryd.prog 27 #[.pointer l_1] w R :=
  calls_of_compF noNum follows [] (f := 27) (fn := Go.Proofs.Tryd.f27) (body := Go.Proofs.Tryd.f27.body.getD .skip) (args := [.pointer l_1]) rfl rfl (Nat.le_of_ble_eq_true rfl) ((congrFun (F27_eq _ l_1) w).mpr h)
theorem F27_call {l_1 : Option Addr} {w : World} {g : Fn W (RTy.leaves (.s (.one .ptr)))} (h : F27 (fun v => Back (.s (.one .ptr)) g (.returned v)) l_1 w) : CallT Go.Proofs.Tryd.prog 27 [.pointer l_1] (.s (.one .ptr)) g w := F27_calls h

/-! ## list.New -/
def F23 (k : Value → W) : W :=
 New [.pointer none, .pointer none, .pointer none, .nilIface, .int .i64 0] 85 fun n1 =>
 CallT Go.Proofs.Tryd.prog 27 [.pointer (some ⟨n1, 0, none⟩)] (.s (.one .ptr)) fun p2 =>
 k (.pointer p2)
theorem F23_eq (k : Value → W) : compF Go.Proofs.Tryd.prog Go.Proofs.Tryd.f23 [] (Go.Proofs.Tryd.f23.body.getD .skip) [] k = F23 k  := by kernel_rfl
theorem F23_calls {w : World} {R : Ending → World → Prop} (h : F23 (fun v w => R (.returned v) w)  w) : Calls Go.Proofs.Tryd.prog 23 #[] w R :=
  calls_of_compF noNum follows [] (f := 23) (fn := Go.Proofs.Tryd.f23) (body := Go.Proofs.Tryd.f23.body.getD .skip) (args := []) rfl rfl (Nat.le_of_ble_eq_true rfl) ((congrFun (F23_eq _ ) w).mpr h)
theorem F23_call {w : World} {g : Fn W (RTy.leaves (.s (.one .ptr)))} (h : F23 (fun v => Back (.s (.one .ptr)) g (.returned v))  w) : CallT Go.Proofs.Tryd.prog 23 [] (.s (.one .ptr)) g w := F23_calls h

/-! ## cache.EvictionPolicy -/
def F11 (k : Value → W) (policy_1 : Int) : W :=
 New [.int .u8 policy_1] 45 fun n2 =>
 k (.func (.func 20) #[] #[.pointer (some ⟨n2, 0, none⟩)])
theorem F11_eq (k : Value → W) (policy_1 : Int) : compF Go.Proofs.Tryd.prog Go.Proofs.Tryd.f11 [] (Go.Proofs.Tryd.f11.body.getD .skip) [.int .u8 policy_1] k = F11 k policy_1 := by kernel_rfl
theorem F11_calls {policy_1 : Int} {w : World} {R : Ending → World → Prop} (h : F11 (fun v w => R (.returned v) w) policy_1 w) : Calls Go.Proofs.Tryd.prog 11 #[.int .u8 policy_1] w R :=
  calls_of_compF noNum follows [] (f := 11) (fn := Go.Proofs.Tryd.f11) (body := Go.Proofs.Tryd.f11.body.getD .skip) (args := [.int .u8 policy_1]) rfl rfl (Nat.le_of_ble_eq_true rfl) ((congrFun (F11_eq _ policy_1) w).mpr h)
theorem F11_call {policy_1 : Int} {w : World} {g : Fn W (RTy.leaves (.s (.one .any)))} (h : F11 (fun v => Back (.s (.one .any)) g (.returned v)) policy_1 w) : CallT Go.Proofs.Tryd.prog 11 [.int .u8 policy_1] (.s (.one .any)) g w := F11_calls h

/-! ## cache.New -/
def F12_L1 (k : Value → W) (again11 : Addr → Option Addr → Nat → Nat → Int → Int → W) (c_7 : Addr) (s8p : Option Addr) (s8l : Nat) (s8c : Nat) (x9 : Int) (x10 : Int) : W :=
 BIf (decide (x10 < x9)) (
  NN s8p fun a12 =>
  Req (0 ≤ x10 ∧ x10 < ((s8l : Nat) : Int)) <|
  LoadT .any (a12.add x10.toNat) fun v13 =>
  NextT Go.Proofs.Tryd.prog (callV v13 [.pointer (some c_7)].toArray) (.tup []) <|
  again11 c_7 s8p s8l s8c x9 (addI .i64 x10 1)) (
  k (.iface 68 (.pointer (some c_7))))
theorem F12_L1_rule {k : Value → W} (I : Addr → Option Addr → Nat → Nat → Int → Int → W) (μ : Addr → Option Addr → Nat → Nat → Int → Int → World → Nat)
  (hr : ∀ (c_7 : Addr) (s8p : Option Addr) (s8l : Nat) (s8c : Nat) (x9 : Int) (x10 : Int) (w : World), I c_7 s8p s8l s8c x9 x10 w → F12_L1 k (fun c_7' s8p' s8l' s8c' x9' x10' w' => I c_7' s8p' s8l' s8c' x9' x10' w' ∧ μ c_7' s8p' s8l' s8c' x9' x10' w' < μ c_7 s8p s8l s8c x9 x10 w) c_7 s8p s8l s8c x9 x10 w)
  {w : World} {c_7 : Addr} {s8p : Option Addr} {s8l : Nat} {s8c : Nat} {x9 : Int} {x10 : Int} (h : I c_7 s8p s8l s8c x9 x10 w) : Loop [.addr, .slice, (.int .i64), (.int .i64)] (F12_L1 k) c_7 s8p s8l s8c x9 x10 w :=
  Loop_intro (ts := [.addr, .slice, (.int .i64), (.int .i64)]) (s := (c_7, (s8p, s8l, s8c), x9, x10, ())) (fun s w => I s.1 s.2.1.1 s.2.1.2.1 s.2.1.2.2 s.2.2.1 s.2.2.2.1 w) (fun s w => μ s.1 s.2.1.1 s.2.1.2.1 s.2.1.2.2 s.2.2.1 s.2.2.2.1 w) h (fun s w h => hr s.1 s.2.1.1 s.2.1.2.1 s.2.1.2.2 s.2.2.1 s.2.2.2.1 w h)
def F12 (k : Value → W) (capacity_1 : Int) (options_2p : Option Addr) (options_2l : Nat) (options_2c : Nat) : W :=
 CallT Go.Proofs.Tryd.prog 23 [] (.s (.one .ptr)) fun p3 =>
 RawT Go.Proofs.Tryd.prog (Instr.makeMap 70 none) (.s (.one .map)) fun m4 =>
 New [.int .u64 capacity_1, .int .u64 0, .map m4, .pointer p3, .nilFunc, .nilFunc] 73 fun n5 =>
 CallT Go.Proofs.Tryd.prog 11 [.int .u8 1] (.s (.one .any)) fun v6 =>
 NextT Go.Proofs.Tryd.prog (callV v6 [.pointer (some ⟨n5, 0, none⟩)].toArray) (.tup []) <|
 Loop [.addr, .slice, (.int .i64), (.int .i64)] (F12_L1 k) ⟨n5, 0, none⟩ options_2p options_2l options_2c ((options_2l : Nat) : Int) 0
theorem F12_eq (k : Value → W) (capacity_1 : Int) (options_2p : Option Addr) (options_2l : Nat) (options_2c : Nat) : compF Go.Proofs.Tryd.prog Go.Proofs.Tryd.f12 [(4, [(5, .addr), (16, .slice), (17, (.int .i64)), (18, (.int .i64))])] (Go.Proofs.Tryd.f12.body.getD .skip) [.int .u64 capacity_1, .slice options_2p options_2l options_2c] k = F12 k capacity_1 options_2p options_2l options_2c := by kernel_rfl
theorem F12_calls {capacity_1 : Int} {options_2p : Option Addr} {options_2l : Nat} {options_2c : Nat} {w : World} {R : Ending → World → Prop} (h : F12 (fun v w => R (.returned v) w) capacity_1 options_2p options_2l options_2c w) : Calls Go.Proofs.Tryd.prog 12 #[.int .u64 capacity_1, .slice options_2p options_2l options_2c] w R :=
  calls_of_compF noNum follows [(4, [(5, .addr), (16, .slice), (17, (.int .i64)), (18, (.int .i64))])] (f := 12) (fn := Go.Proofs.Tryd.f12) (body := Go.Proofs.Tryd.f12.body.getD .skip) (args := [.int .u64 capacity_1, .slice options_2p options_2l options_2c]) rfl rfl (Nat.le_of_ble_eq_true rfl) ((congrFun (F12_eq _ capacity_1 options_2p options_2l options_2c) w).mpr h)
theorem F12_call {capacity_1 : Int} {options_2p : Option Addr} {options_2l : Nat} {options_2c : Nat} {w : World} {g : Fn W (RTy.leaves (.s (.one .any)))} (h : F12 (fun v => Back (.s (.one .any)) g (.returned v)) capacity_1 options_2p options_2l options_2c w) : CallT Go.Proofs.Tryd.prog 12 [.int .u64 capacity_1, .slice options_2p options_2l options_2c] (.s (.one .any)) g w := F12_calls h

/-! ## laws.dcAwake -/
def F8 (k : Value → W) : W :=
 RawT Go.Proofs.Tryd.prog (Instr.buildSlice 25 2 [(0, .int .i64 1), (1, .int .i64 2)].toArray) (.s (.one .slice)) fun s1p s1l s1c =>
 RawT Go.Proofs.Tryd.prog (Instr.buildSlice 22 3 [(0, .agg #[.int .i64 1, .int .i64 1, .int .i64 2, .int .i64 7, .slice none 0 0]), (1, .agg #[.int .i64 1, .int .i64 2, .int .i64 2, .int .i64 8, .slice none 0 0]), (2, .agg #[.int .i64 2, .int .i64 0, .int .i64 0, .int .i64 0, .slice s1p s1l s1c])].toArray) (.s (.one .slice)) fun s2p s2l s2c =>
 CallT Go.Proofs.Tryd.prog 7 [.int .i64 3, .int .i64 0, .slice s2p s2l s2c] (.s (.one .slice)) fun s3p s3l s3c =>
 BIf (((s3l : Nat) : Int) == 3) (
  NN s3p fun a4 =>
  Req (0 ≤ (2 : Int) ∧ (2 : Int) < ((s3l : Nat) : Int)) <|
  LoadT (.int .i64) ((a4.add ((2 : Int).toNat * 3)).add 2) fun x5 =>
  BIf (x5 == 2) (
   NN s3p fun a6 =>
   Req (0 ≤ (2 : Int) ∧ (2 : Int) < ((s3l : Nat) : Int)) <|
   LoadT .slice ((a6.add ((2 : Int).toNat * 3)).add 1) fun s7p s7l s7c =>
   RawT Go.Proofs.Tryd.prog (Instr.buildSlice 33 2 [(0, .bool false), (1, .bool true)].toArray) (.s (.one .slice)) fun s8p s8l s8c =>
   CallT Go.Proofs.Tryd.prog 15 [.slice s7p s7l s7c, .slice s8p s8l s8c] (.s (.one .bool)) fun b9 =>
   BIf b9 (
    NN s3p fun a10 =>
    Req (0 ≤ (2 : Int) ∧ (2 : Int) < ((s3l : Nat) : Int)) <|
    LoadT .slice (a10.add ((2 : Int).toNat * 3)) fun s11p s11l s11c =>
    BIf (((s11l : Nat) : Int) == 2) (
     NN s3p fun a12 =>
     Req (0 ≤ (2 : Int) ∧ (2 : Int) < ((s3l : Nat) : Int)) <|
     LoadT .slice (a12.add ((2 : Int).toNat * 3)) fun s13p s13l s13c =>
     NN s13p fun a14 =>
     Req (0 ≤ (1 : Int) ∧ (1 : Int) < ((s13l : Nat) : Int)) <|
     LoadT (.int .i64) ((a14.add ((1 : Int).toNat * 2)).add 1) fun x15 =>
     k (.bool (x15 == 8))) (
     k (.bool false))) (
    k (.bool false))) (
   k (.bool false))) (
  k (.bool false))
theorem F8_eq (k : Value → W) : compF Go.Proofs.Tryd.prog Go.Proofs.Tryd.f8 [] (Go.Proofs.Tryd.f8.body.getD .skip) [] k = F8 k  := by kernel_rfl
theorem F8_calls {w : World} {R : Ending → World → Prop} (h : F8 (fun v w => R (.returned v) w)  w) : Calls Go.Proofs.Tryd.prog 8 #[] w R :=
  calls_of_compF noNum follows [] (f := 8) (fn := Go.Proofs.Tryd.f8) (body := Go.Proofs.Tryd.f8.body.getD .skip) (args := []) rfl rfl (Nat.le_of_ble_eq_true rfl) ((congrFun (F8_eq _ ) w).mpr h)
theorem F8_call {w : World} {g : Fn W (RTy.leaves (.s (.one .bool)))} (h : F8 (fun v => Back (.s (.one .bool)) g (.returned v))  w) : CallT Go.Proofs.Tryd.prog 8 [] (.s (.one .bool)) g w := F8_calls h

end Go.Proofs.YtmaejciimpnogaaDoor.E
