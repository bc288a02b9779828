/-
  Printed by this session's own program eng.py out of Lean's print of the loaded functions: what each function's body asks, in the engine's words; each is checked against the program by the kernel.
-/
import Derived.Test.YtlbeelgfpbkdbaaEng
import Derived.Test.YtlbeelgfpbkdbaaFnsA
namespace Go.Proofs.Ytlbeelgfpbkdbaa.E
open Go
set_option linter.unusedVariables false
set_option maxRecDepth 100000
/-! ## impl.fhHeap).said -/
def F18_J1 (k : Value → W) (again15 : Option Addr → Addr → Addr → Option Addr → Nat → Nat → Int → Int → W) (x_19 : Option Addr) (a20 : Addr) (out_21 : Addr) (i_22 : Int) (s23p : Option Addr) (s23l : Nat) (s23c : Nat) (x24 : Int) (x25 : Int) (b26 : Bool) : W :=
 BIf b26 (
  Drw <|
  NN x_19 fun a27 =>
  LoadT (.float .f64) (a27.add 6) fun x28 =>
  Both (
   RawT Go.Proofs.Try.prog (convert 56 3 (.float .f64 x28)) (.s (.one (.int .i64))) fun x29 =>
   Store1 (out_21.add 1) (.int .i64 i_22) <|
   Chk1 (a27.add 6) (.float .f64 x28) <|
   Store1 (out_21.add 2) (.int .i64 x29) <|
   again15 x_19 a20 out_21 s23p s23l s23c x24 (addI .i64 x25 1)) (
   Store1 (out_21.add 1) (.int .i64 i_22) <|
   Chk1 (a27.add 6) (.float .f64 x28) <|
   RawT Go.Proofs.Try.prog (convert 56 3 (.float .f64 x28)) (.s (.one (.int .i64))) fun x30 =>
   Store1 (out_21.add 2) (.int .i64 x30) <|
   again15 x_19 a20 out_21 s23p s23l s23c x24 (addI .i64 x25 1))) (
  again15 x_19 a20 out_21 s23p s23l s23c x24 (addI .i64 x25 1))
def F18_L1 (k : Value → W) (again15 : Option Addr → Addr → Addr → Option Addr → Nat → Nat → Int → Int → W) (x_9 : Option Addr) (a10 : Addr) (out_11 : Addr) (s12p : Option Addr) (s12l : Nat) (s12c : Nat) (x13 : Int) (x14 : Int) : W :=
 BIf (decide (x14 < x13)) (
  NN s12p fun a16 =>
  Req (0 ≤ x14 ∧ x14 < ((s12l : Nat) : Int)) <|
  LoadT .ptr (a16.add x14.toNat) fun p17 =>
  BIf (!x_9.isNone) (
   RawS Go.Proofs.Try.prog (binS .eql 42 (.tmp 26) (.tmp 27) (.pointer x_9) (.pointer p17)) (.s (.one .bool)) fun b18 =>
   F18_J1 k again15 x_9 a10 out_11 x14 s12p s12l s12c x13 x14 b18) (
   F18_J1 k again15 x_9 a10 out_11 x14 s12p s12l s12c x13 x14 false)) (
  LoadT .bool (out_11.add 0) fun b31 =>
  LoadT (.int .i64) (out_11.add 1) fun x32 =>
  LoadT (.int .i64) (out_11.add 2) fun x33 =>
  LoadT (.int .i64) (out_11.add 3) fun x34 =>
  LoadT .bool (out_11.add 4) fun b35 =>
  Store1 (a10.add 0) (.bool b31) <|
  Store1 (a10.add 1) (.int .i64 x32) <|
  Store1 (a10.add 2) (.int .i64 x33) <|
  Store1 (a10.add 3) (.int .i64 x34) <|
  Store1 (a10.add 4) (.bool b35) <|
  LoadT .bool (a10.add 0) fun b36 =>
  LoadT (.int .i64) (a10.add 1) fun x37 =>
  LoadT (.int .i64) (a10.add 2) fun x38 =>
  LoadT (.int .i64) (a10.add 3) fun x39 =>
  LoadT .bool (a10.add 4) fun b40 =>
  k (.agg #[.bool b36, .int .i64 x37, .int .i64 x38, .int .i64 x39, .bool b40]))
theorem F18_L1_rule {k : Value → W} (I : Option Addr → Addr → Addr → Option Addr → Nat → Nat → Int → Int → W) (μ : Option Addr → Addr → Addr → Option Addr → Nat → Nat → Int → Int → World → Nat)
  (hr : ∀ (x_9 : Option Addr) (a10 : Addr) (out_11 : Addr) (s12p : Option Addr) (s12l : Nat) (s12c : Nat) (x13 : Int) (x14 : Int) (w : World), I x_9 a10 out_11 s12p s12l s12c x13 x14 w → F18_L1 k (fun x_9' a10' out_11' s12p' s12l' s12c' x13' x14' w' => I x_9' a10' out_11' s12p' s12l' s12c' x13' x14' w' ∧ μ x_9' a10' out_11' s12p' s12l' s12c' x13' x14' w' < μ x_9 a10 out_11 s12p s12l s12c x13 x14 w) x_9 a10 out_11 s12p s12l s12c x13 x14 w)
  {w : World} {x_9 : Option Addr} {a10 : Addr} {out_11 : Addr} {s12p : Option Addr} {s12l : Nat} {s12c : Nat} {x13 : Int} {x14 : Int} (h : I x_9 a10 out_11 s12p s12l s12c x13 x14 w) : Loop [.ptr, .addr, .addr, .slice, (.int .i64), (.int .i64)] (F18_L1 k) x_9 a10 out_11 s12p s12l s12c x13 x14 w :=
  Loop_intro (ts := [.ptr, .addr, .addr, .slice, (.int .i64), (.int .i64)]) (s := (x_9, a10, out_11, (s12p, s12l, s12c), x13, x14, ())) (fun s w => I s.1 s.2.1 s.2.2.1 s.2.2.2.1.1 s.2.2.2.1.2.1 s.2.2.2.1.2.2 s.2.2.2.2.1 s.2.2.2.2.2.1 w) (fun s w => μ s.1 s.2.1 s.2.2.1 s.2.2.2.1.1 s.2.2.2.1.2.1 s.2.2.2.1.2.2 s.2.2.2.2.1 s.2.2.2.2.2.1 w) h (fun s w h => hr s.1 s.2.1 s.2.2.1 s.2.2.2.1.1 s.2.2.2.1.2.1 s.2.2.2.1.2.2 s.2.2.2.2.1 s.2.2.2.2.2.1 w h)
def F18 (k : Value → W) (h_1 : Option Addr) (x_2 : Option Addr) (e_3 : Value) : W :=
 New [.bool false, .int .i64 0, .int .i64 0, .int .i64 0, .bool false] 34 fun n4 =>
 IfaceNil e_3 fun b5 =>
 New [.bool false, .int .i64 0, .int .i64 0, .int .i64 0, .bool false] 34 fun n6 =>
 Store1 ⟨n6, 0, none⟩ (.bool b5) <|
 Store1 ⟨n6, 1, none⟩ (.int .i64 (-1)) <|
 Store1 ⟨n6, 2, none⟩ (.int .i64 0) <|
 Store1 ⟨n6, 3, none⟩ (.int .i64 0) <|
 Store1 ⟨n6, 4, none⟩ (.bool false) <|
 NN h_1 fun a7 =>
 LoadT .slice (a7.add 1) fun s8p s8l s8c =>
 Loop [.ptr, .addr, .addr, .slice, (.int .i64), (.int .i64)] (F18_L1 k) x_2 ⟨n4, 0, none⟩ ⟨n6, 0, none⟩ s8p s8l s8c ((s8l : Nat) : Int) 0
theorem F18_eq (k : Value → W) (h_1 : Option Addr) (x_2 : Option Addr) (e_3 : Value) : compF Go.Proofs.Try.prog Go.Proofs.Try.f18 [(3, [(1, .ptr), (6, .addr), (7, .addr), (16, .slice), (17, (.int .i64)), (18, (.int .i64))])] (Go.Proofs.Try.f18.body.getD .skip) [.pointer h_1, .pointer x_2, e_3] k = F18 k h_1 x_2 e_3 := by kernel_rfl
theorem F18_calls {h_1 : Option Addr} {x_2 : Option Addr} {e_3 : Value} {w : World} {R : Ending → World → Prop} (h : F18 (fun v w => R (.returned v) w) h_1 x_2 e_3 w) : Calls Go.Proofs.Try.prog 18 #[.pointer h_1, .pointer x_2, e_3] w R :=
  calls_of_compF noNum follows [(3, [(1, .ptr), (6, .addr), (7, .addr), (16, .slice), (17, (.int .i64)), (18, (.int .i64))])] (f := 18) (fn := Go.Proofs.Try.f18) (body := Go.Proofs.Try.f18.body.getD .skip) (args := [.pointer h_1, .pointer x_2, e_3]) rfl rfl (Nat.le_of_ble_eq_true rfl) ((congrFun (F18_eq _ h_1 x_2 e_3) w).mpr h)
theorem F18_call {h_1 : Option Addr} {x_2 : Option Addr} {e_3 : Value} {w : World} {g : Fn W (RTy.leaves (.s (.agg [.bool, (.int .i64), (.int .i64), (.int .i64), .bool])))} (h : F18 (fun v => Back (.s (.agg [.bool, (.int .i64), (.int .i64), (.int .i64), .bool])) g (.returned v)) h_1 x_2 e_3 w) : CallT Go.Proofs.Try.prog 18 [.pointer h_1, .pointer x_2, e_3] (.s (.agg [.bool, (.int .i64), (.int .i64), (.int .i64), .bool])) g w := F18_calls h

/-! ## impl.fhHeap).gone -/
def F21_J1 (k : Value → W) (h_5 : Option Addr) (n_6 : Int) (b7 : Bool) : W :=
 BIf b7 (
  NN h_5 fun a8 =>
  LoadT .slice (a8.add 1) fun s9p s9l s9c =>
  NN s9p fun a10 =>
  Req (0 ≤ n_6 ∧ n_6 < ((s9l : Nat) : Int)) <|
  Store1 (a10.add n_6.toNat) (.pointer none) <|
  k (.tuple #[])) (
  k (.tuple #[]))
def F21 (k : Value → W) (h_1 : Option Addr) (n_2 : Int) : W :=
 BIf (decide (n_2 ≥ 0)) (
  NN h_1 fun a3 =>
  LoadT .slice (a3.add 1) fun s4p s4l s4c =>
  F21_J1 k h_1 n_2 (decide (n_2 < ((s4l : Nat) : Int)))) (
  F21_J1 k h_1 n_2 false)
theorem F21_eq (k : Value → W) (h_1 : Option Addr) (n_2 : Int) : compF Go.Proofs.Try.prog Go.Proofs.Try.f21 [] (Go.Proofs.Try.f21.body.getD .skip) [.pointer h_1, .int .i64 n_2] k = F21 k h_1 n_2 := by kernel_rfl
theorem F21_calls {h_1 : Option Addr} {n_2 : Int} {w : World} {R : Ending → World → Prop} (h : F21 (fun v w => R (.returned v) w) h_1 n_2 w) : Calls Go.Proofs.Try.prog 21 #[.pointer h_1, .int .i64 n_2] w R :=
  calls_of_compF noNum follows [] (f := 21) (fn := Go.Proofs.Try.f21) (body := Go.Proofs.Try.f21.body.getD .skip) (args := [.pointer h_1, .int .i64 n_2]) rfl rfl (Nat.le_of_ble_eq_true rfl) ((congrFun (F21_eq _ h_1 n_2) w).mpr h)
theorem F21_call {h_1 : Option Addr} {n_2 : Int} {w : World} {g : Fn W (RTy.leaves (.tup []))} (h : F21 (fun v => Back (.tup []) g (.returned v)) h_1 n_2 w) : CallT Go.Proofs.Try.prog 21 [.pointer h_1, .int .i64 n_2] (.tup []) g w := F21_calls h

/-! ## impl.fhHeap).step -/
def F14_J2 (k : Value → W) (h_129 : Option Addr) (s_130 : Addr) (a131 : Addr) (out_132 : Addr) : W :=
 LoadT (.int .i64) (s_130.add 1) fun x133 =>
 CallT Go.Proofs.Try.prog 21 [.pointer h_129, .int .i64 x133] (.tup []) <|
 LoadT .bool (out_132.add 0) fun b134 =>
 LoadT (.int .i64) (out_132.add 1) fun x135 =>
 LoadT (.int .i64) (out_132.add 2) fun x136 =>
 LoadT (.int .i64) (out_132.add 3) fun x137 =>
 LoadT .bool (out_132.add 4) fun b138 =>
 Store1 (a131.add 0) (.bool b134) <|
 Store1 (a131.add 1) (.int .i64 x135) <|
 Store1 (a131.add 2) (.int .i64 x136) <|
 Store1 (a131.add 3) (.int .i64 x137) <|
 Store1 (a131.add 4) (.bool b138) <|
 LoadT .bool (a131.add 0) fun b139 =>
 LoadT (.int .i64) (a131.add 1) fun x140 =>
 LoadT (.int .i64) (a131.add 2) fun x141 =>
 LoadT (.int .i64) (a131.add 3) fun x142 =>
 LoadT .bool (a131.add 4) fun b143 =>
 k (.agg #[.bool b139, .int .i64 x140, .int .i64 x141, .int .i64 x142, .bool b143])
def F14_L1 (k : Value → W) (again167 : Option Addr → Addr → Addr → Option Addr → Nat → Nat → Int → Int → W) (h_161 : Option Addr) (a162 : Addr) (other_163 : Addr) (s164p : Option Addr) (s164l : Nat) (s164c : Nat) (x165 : Int) (x166 : Int) : W :=
 BIf (decide (x166 < x165)) (
  NN s164p fun a168 =>
  Req (0 ≤ x166 ∧ x166 < ((s164l : Nat) : Int)) <|
  LoadT (.int .i64) (a168.add x166.toNat) fun x169 =>
  Drw <|
  NN h_161 fun a170 =>
  LoadT .slice (a170.add 1) fun s171p s171l s171c =>
  RawT Go.Proofs.Try.prog (convert 3 56 (.int .i64 x169)) (.s (.one (.float .f64))) fun x172 =>
  Chk1 (a170.add 1) (.slice s171p s171l s171c) <|
  CallT Go.Proofs.Try.prog 17 [.pointer (some other_163), .float .f64 x172] (.s (.one .ptr)) fun p173 =>
  Chk1 (a170.add 1) (.slice s171p s171l s171c) <|
  RawT Go.Proofs.Try.prog (Instr.buildSlice 49 1 [(0, .pointer p173)].toArray) (.s (.one .slice)) fun s174p s174l s174c =>
  Chk1 (a170.add 1) (.slice s171p s171l s171c) <|
  NextT Go.Proofs.Try.prog (builtin .append #[49, 49] 49 [false, false].toArray [.slice s171p s171l s171c, .slice s174p s174l s174c].toArray) (.s (.one .slice)) fun s175p s175l s175c =>
  NN h_161 fun a176 =>
  Store1 (a176.add 1) (.slice s175p s175l s175c) <|
  again167 h_161 a162 other_163 s164p s164l s164c x165 (addI .i64 x166 1)) (
  NN h_161 fun a177 =>
  LoadT .ptr a177 fun p178 =>
  CallT Go.Proofs.Try.prog 24 [.pointer p178, .pointer (some other_163)] (.tup [(.agg [.ptr, (.int .u64)]), (.one .any)]) fun p179 x180 v181 =>
  New [.pointer none, .int .u64 0] 45 fun n182 =>
  Store1 ⟨n182, 0, none⟩ (.pointer p179) <|
  Store1 ⟨n182, 1, none⟩ (.int .u64 x180) <|
  NN h_161 fun a183 =>
  Store1 a183 (.pointer (some ⟨n182, 0, none⟩)) <|
  IfaceNil v181 fun b184 =>
  BIf b184 (
   CallT Go.Proofs.Try.prog 16 [.pointer p178] (.s (.one .bool)) fun b185 =>
   BIf b185 (
    CallT Go.Proofs.Try.prog 16 [.pointer (some other_163)] (.s (.one .bool)) fun b186 =>
    Store1 (a162.add 0) (.bool b186) <|
    Store1 (a162.add 1) (.int .i64 (-1)) <|
    Store1 (a162.add 2) (.int .i64 0) <|
    Store1 (a162.add 3) (.int .i64 0) <|
    Store1 (a162.add 4) (.bool false) <|
    LoadT .bool (a162.add 0) fun b187 =>
    LoadT (.int .i64) (a162.add 1) fun x188 =>
    LoadT (.int .i64) (a162.add 2) fun x189 =>
    LoadT (.int .i64) (a162.add 3) fun x190 =>
    LoadT .bool (a162.add 4) fun b191 =>
    k (.agg #[.bool b187, .int .i64 x188, .int .i64 x189, .int .i64 x190, .bool b191])) (
    Store1 (a162.add 0) (.bool false) <|
    Store1 (a162.add 1) (.int .i64 (-1)) <|
    Store1 (a162.add 2) (.int .i64 0) <|
    Store1 (a162.add 3) (.int .i64 0) <|
    Store1 (a162.add 4) (.bool false) <|
    LoadT .bool (a162.add 0) fun b192 =>
    LoadT (.int .i64) (a162.add 1) fun x193 =>
    LoadT (.int .i64) (a162.add 2) fun x194 =>
    LoadT (.int .i64) (a162.add 3) fun x195 =>
    LoadT .bool (a162.add 4) fun b196 =>
    k (.agg #[.bool b192, .int .i64 x193, .int .i64 x194, .int .i64 x195, .bool b196]))) (
   Store1 (a162.add 0) (.bool false) <|
   Store1 (a162.add 1) (.int .i64 (-1)) <|
   Store1 (a162.add 2) (.int .i64 0) <|
   Store1 (a162.add 3) (.int .i64 0) <|
   Store1 (a162.add 4) (.bool false) <|
   LoadT .bool (a162.add 0) fun b197 =>
   LoadT (.int .i64) (a162.add 1) fun x198 =>
   LoadT (.int .i64) (a162.add 2) fun x199 =>
   LoadT (.int .i64) (a162.add 3) fun x200 =>
   LoadT .bool (a162.add 4) fun b201 =>
   k (.agg #[.bool b197, .int .i64 x198, .int .i64 x199, .int .i64 x200, .bool b201])))
theorem F14_L1_rule {k : Value → W} (I : Option Addr → Addr → Addr → Option Addr → Nat → Nat → Int → Int → W) (μ : Option Addr → Addr → Addr → Option Addr → Nat → Nat → Int → Int → World → Nat)
  (hr : ∀ (h_161 : Option Addr) (a162 : Addr) (other_163 : Addr) (s164p : Option Addr) (s164l : Nat) (s164c : Nat) (x165 : Int) (x166 : Int) (w : World), I h_161 a162 other_163 s164p s164l s164c x165 x166 w → F14_L1 k (fun h_161' a162' other_163' s164p' s164l' s164c' x165' x166' w' => I h_161' a162' other_163' s164p' s164l' s164c' x165' x166' w' ∧ μ h_161' a162' other_163' s164p' s164l' s164c' x165' x166' w' < μ h_161 a162 other_163 s164p s164l s164c x165 x166 w) h_161 a162 other_163 s164p s164l s164c x165 x166 w)
  {w : World} {h_161 : Option Addr} {a162 : Addr} {other_163 : Addr} {s164p : Option Addr} {s164l : Nat} {s164c : Nat} {x165 : Int} {x166 : Int} (h : I h_161 a162 other_163 s164p s164l s164c x165 x166 w) : Loop [.ptr, .addr, .addr, .slice, (.int .i64), (.int .i64)] (F14_L1 k) h_161 a162 other_163 s164p s164l s164c x165 x166 w :=
  Loop_intro (ts := [.ptr, .addr, .addr, .slice, (.int .i64), (.int .i64)]) (s := (h_161, a162, other_163, (s164p, s164l, s164c), x165, x166, ())) (fun s w => I s.1 s.2.1 s.2.2.1 s.2.2.2.1.1 s.2.2.2.1.2.1 s.2.2.2.1.2.2 s.2.2.2.2.1 s.2.2.2.2.2.1 w) (fun s w => μ s.1 s.2.1 s.2.2.1 s.2.2.2.1.1 s.2.2.2.1.2.1 s.2.2.2.1.2.2 s.2.2.2.2.1 s.2.2.2.2.2.1 w) h (fun s w h => hr s.1 s.2.1 s.2.2.1 s.2.2.2.1.1 s.2.2.2.1.2.1 s.2.2.2.1.2.2 s.2.2.2.2.1 s.2.2.2.2.2.1 w h)
def F14_J1 (k : Value → W) (h_64 : Option Addr) (s_65 : Addr) (a66 : Addr) (x67 : Int) (b68 : Bool) : W :=
 BIf b68 (
  Drw <|
  LoadT (.int .i64) (s_65.add 1) fun x69 =>
  BIf (decide (x69 < 0)) (
   Store1 (a66.add 0) (.bool false) <|
   Store1 (a66.add 1) (.int .i64 (-1)) <|
   Store1 (a66.add 2) (.int .i64 0) <|
   Store1 (a66.add 3) (.int .i64 0) <|
   Store1 (a66.add 4) (.bool false) <|
   LoadT .bool (a66.add 0) fun b70 =>
   LoadT (.int .i64) (a66.add 1) fun x71 =>
   LoadT (.int .i64) (a66.add 2) fun x72 =>
   LoadT (.int .i64) (a66.add 3) fun x73 =>
   LoadT .bool (a66.add 4) fun b74 =>
   k (.agg #[.bool b70, .int .i64 x71, .int .i64 x72, .int .i64 x73, .bool b74])) (
   LoadT (.int .i64) (s_65.add 1) fun x75 =>
   NN h_64 fun a76 =>
   LoadT .slice (a76.add 1) fun s77p s77l s77c =>
   BIf (decide (x75 ≥ ((s77l : Nat) : Int))) (
    Store1 (a66.add 0) (.bool false) <|
    Store1 (a66.add 1) (.int .i64 (-1)) <|
    Store1 (a66.add 2) (.int .i64 0) <|
    Store1 (a66.add 3) (.int .i64 0) <|
    Store1 (a66.add 4) (.bool false) <|
    LoadT .bool (a66.add 0) fun b78 =>
    LoadT (.int .i64) (a66.add 1) fun x79 =>
    LoadT (.int .i64) (a66.add 2) fun x80 =>
    LoadT (.int .i64) (a66.add 3) fun x81 =>
    LoadT .bool (a66.add 4) fun b82 =>
    k (.agg #[.bool b78, .int .i64 x79, .int .i64 x80, .int .i64 x81, .bool b82])) (
    NN h_64 fun a83 =>
    LoadT .slice (a83.add 1) fun s84p s84l s84c =>
    LoadT (.int .i64) (s_65.add 1) fun x85 =>
    NN s84p fun a86 =>
    Req (0 ≤ x85 ∧ x85 < ((s84l : Nat) : Int)) <|
    LoadT .ptr (a86.add x85.toNat) fun p87 =>
    BIf p87.isNone (
     Store1 (a66.add 0) (.bool false) <|
     Store1 (a66.add 1) (.int .i64 (-1)) <|
     Store1 (a66.add 2) (.int .i64 0) <|
     Store1 (a66.add 3) (.int .i64 0) <|
     Store1 (a66.add 4) (.bool false) <|
     LoadT .bool (a66.add 0) fun b88 =>
     LoadT (.int .i64) (a66.add 1) fun x89 =>
     LoadT (.int .i64) (a66.add 2) fun x90 =>
     LoadT (.int .i64) (a66.add 3) fun x91 =>
     LoadT .bool (a66.add 4) fun b92 =>
     k (.agg #[.bool b88, .int .i64 x89, .int .i64 x90, .int .i64 x91, .bool b92])) (
     LoadT (.int .i64) s_65 fun x93 =>
     BIf (x93 == 4) (
      Drw <|
      NN h_64 fun a94 =>
      LoadT .ptr a94 fun p95 =>
      NN h_64 fun a96 =>
      LoadT .slice (a96.add 1) fun s97p s97l s97c =>
      LoadT (.int .i64) (s_65.add 1) fun x98 =>
      NN s97p fun a99 =>
      Req (0 ≤ x98 ∧ x98 < ((s97l : Nat) : Int)) <|
      LoadT .ptr (a99.add x98.toNat) fun p100 =>
      LoadT (.int .i64) (s_65.add 2) fun x101 =>
      RawT Go.Proofs.Try.prog (convert 3 56 (.int .i64 x101)) (.s (.one (.float .f64))) fun x102 =>
      Chk1 (a99.add x98.toNat) (.pointer p100) <|
      Chk1 (s_65.add 1) (.int .i64 x98) <|
      Chk1 (a96.add 1) (.slice s97p s97l s97c) <|
      Chk1 a94 (.pointer p95) <|
      CallT Go.Proofs.Try.prog 22 [.pointer p95, .pointer p100, .float .f64 x102] (.tup [(.one .ptr), (.one .any)]) fun p103 v104 =>
      Chk1 (s_65.add 2) (.int .i64 x101) <|
      Chk1 (s_65.add 1) (.int .i64 x98) <|
      Chk1 (a96.add 1) (.slice s97p s97l s97c) <|
      CallT Go.Proofs.Try.prog 18 [.pointer h_64, .pointer p103, v104] (.s (.agg [.bool, (.int .i64), (.int .i64), (.int .i64), .bool])) fun b105 x106 x107 x108 b109 =>
      Chk1 (s_65.add 2) (.int .i64 x101) <|
      Chk1 (a99.add x98.toNat) (.pointer p100) <|
      Chk1 (s_65.add 1) (.int .i64 x98) <|
      Chk1 (a96.add 1) (.slice s97p s97l s97c) <|
      Chk1 a94 (.pointer p95) <|
      Store1 (a66.add 0) (.bool b105) <|
      Store1 (a66.add 1) (.int .i64 x106) <|
      Store1 (a66.add 2) (.int .i64 x107) <|
      Store1 (a66.add 3) (.int .i64 x108) <|
      Store1 (a66.add 4) (.bool b109) <|
      LoadT .bool (a66.add 0) fun b110 =>
      LoadT (.int .i64) (a66.add 1) fun x111 =>
      LoadT (.int .i64) (a66.add 2) fun x112 =>
      LoadT (.int .i64) (a66.add 3) fun x113 =>
      LoadT .bool (a66.add 4) fun b114 =>
      k (.agg #[.bool b110, .int .i64 x111, .int .i64 x112, .int .i64 x113, .bool b114])) (
      Drw <|
      NN h_64 fun a115 =>
      LoadT .ptr a115 fun p116 =>
      NN h_64 fun a117 =>
      LoadT .slice (a117.add 1) fun s118p s118l s118c =>
      LoadT (.int .i64) (s_65.add 1) fun x119 =>
      NN s118p fun a120 =>
      Req (0 ≤ x119 ∧ x119 < ((s118l : Nat) : Int)) <|
      LoadT .ptr (a120.add x119.toNat) fun p121 =>
      Both (
       CallT Go.Proofs.Try.prog 23 [.pointer p116, .pointer p121] (.s (.one .any)) fun v122 =>
       Chk1 (s_65.add 1) (.int .i64 x119) <|
       Chk1 (a117.add 1) (.slice s118p s118l s118c) <|
       Both (
        CallT Go.Proofs.Try.prog 18 [.pointer h_64, .pointer none, v122] (.s (.agg [.bool, (.int .i64), (.int .i64), (.int .i64), .bool])) fun b123 x124 x125 x126 b127 =>
        Chk1 (a120.add x119.toNat) (.pointer p121) <|
        Chk1 (s_65.add 1) (.int .i64 x119) <|
        Chk1 (a117.add 1) (.slice s118p s118l s118c) <|
        Chk1 a115 (.pointer p116) <|
        New [.bool false, .int .i64 0, .int .i64 0, .int .i64 0, .bool false] 34 fun n128 =>
        Chk1 (a120.add x119.toNat) (.pointer p121) <|
        Chk1 (s_65.add 1) (.int .i64 x119) <|
        Chk1 (a117.add 1) (.slice s118p s118l s118c) <|
        Chk1 a115 (.pointer p116) <|
        Store1 ⟨n128, 0, none⟩ (.bool b123) <|
        Store1 ⟨n128, 1, none⟩ (.int .i64 x124) <|
        Store1 ⟨n128, 2, none⟩ (.int .i64 x125) <|
        Store1 ⟨n128, 3, none⟩ (.int .i64 x126) <|
        Store1 ⟨n128, 4, none⟩ (.bool b127) <|
        F14_J2 k h_64 s_65 a66 ⟨n128, 0, none⟩) (
        New [.bool false, .int .i64 0, .int .i64 0, .int .i64 0, .bool false] 34 fun n144 =>
        Chk1 (a120.add x119.toNat) (.pointer p121) <|
        Chk1 (s_65.add 1) (.int .i64 x119) <|
        Chk1 (a117.add 1) (.slice s118p s118l s118c) <|
        Chk1 a115 (.pointer p116) <|
        CallT Go.Proofs.Try.prog 18 [.pointer h_64, .pointer none, v122] (.s (.agg [.bool, (.int .i64), (.int .i64), (.int .i64), .bool])) fun b145 x146 x147 x148 b149 =>
        Chk1 (a120.add x119.toNat) (.pointer p121) <|
        Chk1 (s_65.add 1) (.int .i64 x119) <|
        Chk1 (a117.add 1) (.slice s118p s118l s118c) <|
        Chk1 a115 (.pointer p116) <|
        Store1 ⟨n144, 0, none⟩ (.bool b145) <|
        Store1 ⟨n144, 1, none⟩ (.int .i64 x146) <|
        Store1 ⟨n144, 2, none⟩ (.int .i64 x147) <|
        Store1 ⟨n144, 3, none⟩ (.int .i64 x148) <|
        Store1 ⟨n144, 4, none⟩ (.bool b149) <|
        F14_J2 k h_64 s_65 a66 ⟨n144, 0, none⟩)) (
       New [.bool false, .int .i64 0, .int .i64 0, .int .i64 0, .bool false] 34 fun n150 =>
       Chk1 (a120.add x119.toNat) (.pointer p121) <|
       Chk1 (s_65.add 1) (.int .i64 x119) <|
       Chk1 (a117.add 1) (.slice s118p s118l s118c) <|
       Chk1 a115 (.pointer p116) <|
       CallT Go.Proofs.Try.prog 23 [.pointer p116, .pointer p121] (.s (.one .any)) fun v151 =>
       Chk1 (s_65.add 1) (.int .i64 x119) <|
       Chk1 (a117.add 1) (.slice s118p s118l s118c) <|
       CallT Go.Proofs.Try.prog 18 [.pointer h_64, .pointer none, v151] (.s (.agg [.bool, (.int .i64), (.int .i64), (.int .i64), .bool])) fun b152 x153 x154 x155 b156 =>
       Chk1 (a120.add x119.toNat) (.pointer p121) <|
       Chk1 (s_65.add 1) (.int .i64 x119) <|
       Chk1 (a117.add 1) (.slice s118p s118l s118c) <|
       Chk1 a115 (.pointer p116) <|
       Store1 ⟨n150, 0, none⟩ (.bool b152) <|
       Store1 ⟨n150, 1, none⟩ (.int .i64 x153) <|
       Store1 ⟨n150, 2, none⟩ (.int .i64 x154) <|
       Store1 ⟨n150, 3, none⟩ (.int .i64 x155) <|
       Store1 ⟨n150, 4, none⟩ (.bool b156) <|
       F14_J2 k h_64 s_65 a66 ⟨n150, 0, none⟩)))))) (
  BIf (x67 == 6) (
   CallT Go.Proofs.Try.prog 13 [] (.s (.agg [.ptr, (.int .u64)])) fun p157 x158 =>
   New [.pointer none, .int .u64 0] 45 fun n159 =>
   Store1 ⟨n159, 0, none⟩ (.pointer p157) <|
   Store1 ⟨n159, 1, none⟩ (.int .u64 x158) <|
   LoadT .slice (s_65.add 3) fun s160p s160l s160c =>
   Loop [.ptr, .addr, .addr, .slice, (.int .i64), (.int .i64)] (F14_L1 k) h_64 a66 ⟨n159, 0, none⟩ s160p s160l s160c ((s160l : Nat) : Int) 0) (
   Store1 (a66.add 0) (.bool false) <|
   Store1 (a66.add 1) (.int .i64 (-1)) <|
   Store1 (a66.add 2) (.int .i64 0) <|
   Store1 (a66.add 3) (.int .i64 0) <|
   Store1 (a66.add 4) (.bool false) <|
   LoadT .bool (a66.add 0) fun b202 =>
   LoadT (.int .i64) (a66.add 1) fun x203 =>
   LoadT (.int .i64) (a66.add 2) fun x204 =>
   LoadT (.int .i64) (a66.add 3) fun x205 =>
   LoadT .bool (a66.add 4) fun b206 =>
   k (.agg #[.bool b202, .int .i64 x203, .int .i64 x204, .int .i64 x205, .bool b206])))
def F14 (k : Value → W) (h_1 : Option Addr) (x2 : Int) (x3 : Int) (x4 : Int) (s5p : Option Addr) (s5l : Nat) (s5c : Nat) : W :=
 New [.int .i64 x2, .int .i64 x3, .int .i64 x4, .slice s5p s5l s5c] 30 fun n6 =>
 New [.bool false, .int .i64 0, .int .i64 0, .int .i64 0, .bool false] 34 fun n7 =>
 LoadT (.int .i64) ⟨n6, 0, none⟩ fun x8 =>
 BIf (x8 == 1) (
  Drw <|
  NN h_1 fun a9 =>
  LoadT .ptr a9 fun p10 =>
  LoadT (.int .i64) ⟨n6, 2, none⟩ fun x11 =>
  RawT Go.Proofs.Try.prog (convert 3 56 (.int .i64 x11)) (.s (.one (.float .f64))) fun x12 =>
  Chk1 a9 (.pointer p10) <|
  CallT Go.Proofs.Try.prog 17 [.pointer p10, .float .f64 x12] (.s (.one .ptr)) fun p13 =>
  Chk1 ⟨n6, 2, none⟩ (.int .i64 x11) <|
  NN h_1 fun a14 =>
  LoadT .slice (a14.add 1) fun s15p s15l s15c =>
  RawT Go.Proofs.Try.prog (Instr.buildSlice 49 1 [(0, .pointer p13)].toArray) (.s (.one .slice)) fun s16p s16l s16c =>
  NextT Go.Proofs.Try.prog (builtin .append #[49, 49] 49 [false, false].toArray [.slice s15p s15l s15c, .slice s16p s16l s16c].toArray) (.s (.one .slice)) fun s17p s17l s17c =>
  NN h_1 fun a18 =>
  Store1 (a18.add 1) (.slice s17p s17l s17c) <|
  CallT Go.Proofs.Try.prog 18 [.pointer h_1, .pointer p13, .nilIface] (.s (.agg [.bool, (.int .i64), (.int .i64), (.int .i64), .bool])) fun b19 x20 x21 x22 b23 =>
  Store1 ⟨n7, 0, none⟩ (.bool b19) <|
  Store1 ⟨n7, 1, none⟩ (.int .i64 x20) <|
  Store1 ⟨n7, 2, none⟩ (.int .i64 x21) <|
  Store1 ⟨n7, 3, none⟩ (.int .i64 x22) <|
  Store1 ⟨n7, 4, none⟩ (.bool b23) <|
  LoadT .bool ⟨n7, 0, none⟩ fun b24 =>
  LoadT (.int .i64) ⟨n7, 1, none⟩ fun x25 =>
  LoadT (.int .i64) ⟨n7, 2, none⟩ fun x26 =>
  LoadT (.int .i64) ⟨n7, 3, none⟩ fun x27 =>
  LoadT .bool ⟨n7, 4, none⟩ fun b28 =>
  k (.agg #[.bool b24, .int .i64 x25, .int .i64 x26, .int .i64 x27, .bool b28])) (
  BIf (x8 == 2) (
   NN h_1 fun a29 =>
   LoadT .ptr a29 fun p30 =>
   CallT Go.Proofs.Try.prog 19 [.pointer p30] (.tup [(.one .ptr), (.one .any)]) fun p31 v32 =>
   CallT Go.Proofs.Try.prog 18 [.pointer h_1, .pointer p31, v32] (.s (.agg [.bool, (.int .i64), (.int .i64), (.int .i64), .bool])) fun b33 x34 x35 x36 b37 =>
   Store1 ⟨n7, 0, none⟩ (.bool b33) <|
   Store1 ⟨n7, 1, none⟩ (.int .i64 x34) <|
   Store1 ⟨n7, 2, none⟩ (.int .i64 x35) <|
   Store1 ⟨n7, 3, none⟩ (.int .i64 x36) <|
   Store1 ⟨n7, 4, none⟩ (.bool b37) <|
   LoadT .bool ⟨n7, 0, none⟩ fun b38 =>
   LoadT (.int .i64) ⟨n7, 1, none⟩ fun x39 =>
   LoadT (.int .i64) ⟨n7, 2, none⟩ fun x40 =>
   LoadT (.int .i64) ⟨n7, 3, none⟩ fun x41 =>
   LoadT .bool ⟨n7, 4, none⟩ fun b42 =>
   k (.agg #[.bool b38, .int .i64 x39, .int .i64 x40, .int .i64 x41, .bool b42])) (
   BIf (x8 == 3) (
    NN h_1 fun a43 =>
    LoadT .ptr a43 fun p44 =>
    CallT Go.Proofs.Try.prog 20 [.pointer p44] (.tup [(.one .ptr), (.one .any)]) fun p45 v46 =>
    CallT Go.Proofs.Try.prog 18 [.pointer h_1, .pointer p45, v46] (.s (.agg [.bool, (.int .i64), (.int .i64), (.int .i64), .bool])) fun b47 x48 x49 x50 b51 =>
    New [.bool false, .int .i64 0, .int .i64 0, .int .i64 0, .bool false] 34 fun n52 =>
    Store1 ⟨n52, 0, none⟩ (.bool b47) <|
    Store1 ⟨n52, 1, none⟩ (.int .i64 x48) <|
    Store1 ⟨n52, 2, none⟩ (.int .i64 x49) <|
    Store1 ⟨n52, 3, none⟩ (.int .i64 x50) <|
    Store1 ⟨n52, 4, none⟩ (.bool b51) <|
    LoadT (.int .i64) ⟨n52, 1, none⟩ fun x53 =>
    CallT Go.Proofs.Try.prog 21 [.pointer h_1, .int .i64 x53] (.tup []) <|
    LoadT .bool ⟨n52, 0, none⟩ fun b54 =>
    LoadT (.int .i64) ⟨n52, 1, none⟩ fun x55 =>
    LoadT (.int .i64) ⟨n52, 2, none⟩ fun x56 =>
    LoadT (.int .i64) ⟨n52, 3, none⟩ fun x57 =>
    LoadT .bool ⟨n52, 4, none⟩ fun b58 =>
    Store1 ⟨n7, 0, none⟩ (.bool b54) <|
    Store1 ⟨n7, 1, none⟩ (.int .i64 x55) <|
    Store1 ⟨n7, 2, none⟩ (.int .i64 x56) <|
    Store1 ⟨n7, 3, none⟩ (.int .i64 x57) <|
    Store1 ⟨n7, 4, none⟩ (.bool b58) <|
    LoadT .bool ⟨n7, 0, none⟩ fun b59 =>
    LoadT (.int .i64) ⟨n7, 1, none⟩ fun x60 =>
    LoadT (.int .i64) ⟨n7, 2, none⟩ fun x61 =>
    LoadT (.int .i64) ⟨n7, 3, none⟩ fun x62 =>
    LoadT .bool ⟨n7, 4, none⟩ fun b63 =>
    k (.agg #[.bool b59, .int .i64 x60, .int .i64 x61, .int .i64 x62, .bool b63])) (
    BIf (x8 == 4) (
     F14_J1 k h_1 ⟨n6, 0, none⟩ ⟨n7, 0, none⟩ x8 (x8 == 4)) (
     F14_J1 k h_1 ⟨n6, 0, none⟩ ⟨n7, 0, none⟩ x8 (x8 == 5)))))
theorem F14_eq (k : Value → W) (h_1 : Option Addr) (x2 : Int) (x3 : Int) (x4 : Int) (s5p : Option Addr) (s5l : Nat) (s5c : Nat) : compF Go.Proofs.Try.prog Go.Proofs.Try.f14 [(23, [(0, .ptr), (4, .addr), (8, .addr), (140, .slice), (141, (.int .i64)), (142, (.int .i64))])] (Go.Proofs.Try.f14.body.getD .skip) [.pointer h_1, .agg #[.int .i64 x2, .int .i64 x3, .int .i64 x4, .slice s5p s5l s5c]] k = F14 k h_1 x2 x3 x4 s5p s5l s5c := by kernel_rfl
theorem F14_calls {h_1 : Option Addr} {x2 : Int} {x3 : Int} {x4 : Int} {s5p : Option Addr} {s5l : Nat} {s5c : Nat} {w : World} {R : Ending → World → Prop} (h : F14 (fun v w => R (.returned v) w) h_1 x2 x3 x4 s5p s5l s5c w) : Calls Go.Proofs.Try.prog 14 #[.pointer h_1, .agg #[.int .i64 x2, .int .i64 x3, .int .i64 x4, .slice s5p s5l s5c]] w R :=
  calls_of_compF noNum follows [(23, [(0, .ptr), (4, .addr), (8, .addr), (140, .slice), (141, (.int .i64)), (142, (.int .i64))])] (f := 14) (fn := Go.Proofs.Try.f14) (body := Go.Proofs.Try.f14.body.getD .skip) (args := [.pointer h_1, .agg #[.int .i64 x2, .int .i64 x3, .int .i64 x4, .slice s5p s5l s5c]]) rfl rfl (Nat.le_of_ble_eq_true rfl) ((congrFun (F14_eq _ h_1 x2 x3 x4 s5p s5l s5c) w).mpr h)
theorem F14_call {h_1 : Option Addr} {x2 : Int} {x3 : Int} {x4 : Int} {s5p : Option Addr} {s5l : Nat} {s5c : Nat} {w : World} {g : Fn W (RTy.leaves (.s (.agg [.bool, (.int .i64), (.int .i64), (.int .i64), .bool])))} (h : F14 (fun v => Back (.s (.agg [.bool, (.int .i64), (.int .i64), (.int .i64), .bool])) g (.returned v)) h_1 x2 x3 x4 s5p s5l s5c w) : CallT Go.Proofs.Try.prog 14 [.pointer h_1, .agg #[.int .i64 x2, .int .i64 x3, .int .i64 x4, .slice s5p s5l s5c]] (.s (.agg [.bool, (.int .i64), (.int .i64), (.int .i64), .bool])) g w := F14_calls h

/-! ## impl.FHRun -/
def F9_L1 (k : Value → W) (again11 : Addr → Option Addr → Nat → Nat → Option Addr → Nat → Nat → Int → Int → W) (h_6 : Addr) (out_7p : Option Addr) (out_7l : Nat) (out_7c : Nat) (s8p : Option Addr) (s8l : Nat) (s8c : Nat) (x9 : Int) (x10 : Int) : W :=
 BIf (decide (x10 < x9)) (
  NN s8p fun a12 =>
  Req (0 ≤ x10 ∧ x10 < ((s8l : Nat) : Int)) <|
  LoadT (.int .i64) ((a12.add (x10.toNat * 4)).add 0) fun x13 =>
  LoadT (.int .i64) ((a12.add (x10.toNat * 4)).add 1) fun x14 =>
  LoadT (.int .i64) ((a12.add (x10.toNat * 4)).add 2) fun x15 =>
  LoadT .slice ((a12.add (x10.toNat * 4)).add 3) fun s16p s16l s16c =>
  New [.int .i64 0, .int .i64 0, .int .i64 0, .slice none 0 0] 30 fun n17 =>
  Store1 ⟨n17, 0, none⟩ (.int .i64 x13) <|
  Store1 ⟨n17, 1, none⟩ (.int .i64 x14) <|
  Store1 ⟨n17, 2, none⟩ (.int .i64 x15) <|
  Store1 ⟨n17, 3, none⟩ (.slice s16p s16l s16c) <|
  LoadT (.int .i64) ⟨n17, 0, none⟩ fun x18 =>
  LoadT (.int .i64) ⟨n17, 1, none⟩ fun x19 =>
  LoadT (.int .i64) ⟨n17, 2, none⟩ fun x20 =>
  LoadT .slice ⟨n17, 3, none⟩ fun s21p s21l s21c =>
  CallT Go.Proofs.Try.prog 14 [.pointer (some h_6), .agg #[.int .i64 x18, .int .i64 x19, .int .i64 x20, .slice s21p s21l s21c]] (.s (.agg [.bool, (.int .i64), (.int .i64), (.int .i64), .bool])) fun b22 x23 x24 x25 b26 =>
  New [.bool false, .int .i64 0, .int .i64 0, .int .i64 0, .bool false] 34 fun n27 =>
  Store1 ⟨n27, 0, none⟩ (.bool b22) <|
  Store1 ⟨n27, 1, none⟩ (.int .i64 x23) <|
  Store1 ⟨n27, 2, none⟩ (.int .i64 x24) <|
  Store1 ⟨n27, 3, none⟩ (.int .i64 x25) <|
  Store1 ⟨n27, 4, none⟩ (.bool b26) <|
  Drw <|
  LoadT .ptr h_6 fun p28 =>
  LoadT .ptr h_6 fun p29 =>
  CallT Go.Proofs.Try.prog 15 [.pointer p28] (.s (.one (.int .u64))) fun x30 =>
  Chk1 h_6 (.pointer p29) <|
  CallT Go.Proofs.Try.prog 16 [.pointer p29] (.s (.one .bool)) fun b31 =>
  Chk1 h_6 (.pointer p28) <|
  Store1 ⟨n27, 3, none⟩ (.int .i64 (IntKind.wrap .i64 x30)) <|
  Chk1 h_6 (.pointer p29) <|
  Store1 ⟨n27, 4, none⟩ (.bool b31) <|
  LoadT .bool ⟨n27, 0, none⟩ fun b32 =>
  LoadT (.int .i64) ⟨n27, 1, none⟩ fun x33 =>
  LoadT (.int .i64) ⟨n27, 2, none⟩ fun x34 =>
  LoadT (.int .i64) ⟨n27, 3, none⟩ fun x35 =>
  LoadT .bool ⟨n27, 4, none⟩ fun b36 =>
  RawT Go.Proofs.Try.prog (Instr.buildSlice 31 1 [(0, .agg #[.bool b32, .int .i64 x33, .int .i64 x34, .int .i64 x35, .bool b36])].toArray) (.s (.one .slice)) fun s37p s37l s37c =>
  NextT Go.Proofs.Try.prog (builtin .append #[31, 31] 31 [false, false].toArray [.slice out_7p out_7l out_7c, .slice s37p s37l s37c].toArray) (.s (.one .slice)) fun s38p s38l s38c =>
  again11 h_6 s38p s38l s38c s8p s8l s8c x9 (addI .i64 x10 1)) (
  k (.slice out_7p out_7l out_7c))
theorem F9_L1_rule {k : Value → W} (I : Addr → Option Addr → Nat → Nat → Option Addr → Nat → Nat → Int → Int → W) (μ : Addr → Option Addr → Nat → Nat → Option Addr → Nat → Nat → Int → Int → World → Nat)
  (hr : ∀ (h_6 : Addr) (out_7p : Option Addr) (out_7l : Nat) (out_7c : Nat) (s8p : Option Addr) (s8l : Nat) (s8c : Nat) (x9 : Int) (x10 : Int) (w : World), I h_6 out_7p out_7l out_7c s8p s8l s8c x9 x10 w → F9_L1 k (fun h_6' out_7p' out_7l' out_7c' s8p' s8l' s8c' x9' x10' w' => I h_6' out_7p' out_7l' out_7c' s8p' s8l' s8c' x9' x10' w' ∧ μ h_6' out_7p' out_7l' out_7c' s8p' s8l' s8c' x9' x10' w' < μ h_6 out_7p out_7l out_7c s8p s8l s8c x9 x10 w) h_6 out_7p out_7l out_7c s8p s8l s8c x9 x10 w)
  {w : World} {h_6 : Addr} {out_7p : Option Addr} {out_7l : Nat} {out_7c : Nat} {s8p : Option Addr} {s8l : Nat} {s8c : Nat} {x9 : Int} {x10 : Int} (h : I h_6 out_7p out_7l out_7c s8p s8l s8c x9 x10 w) : Loop [.addr, .slice, .slice, (.int .i64), (.int .i64)] (F9_L1 k) h_6 out_7p out_7l out_7c s8p s8l s8c x9 x10 w :=
  Loop_intro (ts := [.addr, .slice, .slice, (.int .i64), (.int .i64)]) (s := (h_6, (out_7p, out_7l, out_7c), (s8p, s8l, s8c), x9, x10, ())) (fun s w => I s.1 s.2.1.1 s.2.1.2.1 s.2.1.2.2 s.2.2.1.1 s.2.2.1.2.1 s.2.2.1.2.2 s.2.2.2.1 s.2.2.2.2.1 w) (fun s w => μ s.1 s.2.1.1 s.2.1.2.1 s.2.1.2.2 s.2.2.1.1 s.2.2.1.2.1 s.2.2.1.2.2 s.2.2.2.1 s.2.2.2.2.1 w) h (fun s w h => hr s.1 s.2.1.1 s.2.1.2.1 s.2.1.2.2 s.2.2.1.1 s.2.2.1.2.1 s.2.2.1.2.2 s.2.2.2.1 s.2.2.2.2.1 w h)
def F9 (k : Value → W) (steps_1p : Option Addr) (steps_1l : Nat) (steps_1c : Nat) : W :=
 CallT Go.Proofs.Try.prog 13 [] (.s (.agg [.ptr, (.int .u64)])) fun p2 x3 =>
 New [.pointer none, .int .u64 0] 45 fun n4 =>
 Store1 ⟨n4, 0, none⟩ (.pointer p2) <|
 Store1 ⟨n4, 1, none⟩ (.int .u64 x3) <|
 New [.pointer (some ⟨n4, 0, none⟩), .slice none 0 0] 51 fun n5 =>
 Loop [.addr, .slice, .slice, (.int .i64), (.int .i64)] (F9_L1 k) ⟨n5, 0, none⟩ none 0 0 steps_1p steps_1l steps_1c ((steps_1l : Nat) : Int) 0
theorem F9_eq (k : Value → W) (steps_1p : Option Addr) (steps_1l : Nat) (steps_1c : Nat) : compF Go.Proofs.Try.prog Go.Proofs.Try.f9 [(5, [(4, .addr), (5, .slice), (12, .slice), (13, (.int .i64)), (14, (.int .i64))])] (Go.Proofs.Try.f9.body.getD .skip) [.slice steps_1p steps_1l steps_1c] k = F9 k steps_1p steps_1l steps_1c := by kernel_rfl
theorem F9_calls {steps_1p : Option Addr} {steps_1l : Nat} {steps_1c : Nat} {w : World} {R : Ending → World → Prop} (h : F9 (fun v w => R (.returned v) w) steps_1p steps_1l steps_1c w) : Calls Go.Proofs.Try.prog 9 #[.slice steps_1p steps_1l steps_1c] w R :=
  calls_of_compF noNum follows [(5, [(4, .addr), (5, .slice), (12, .slice), (13, (.int .i64)), (14, (.int .i64))])] (f := 9) (fn := Go.Proofs.Try.f9) (body := Go.Proofs.Try.f9.body.getD .skip) (args := [.slice steps_1p steps_1l steps_1c]) rfl rfl (Nat.le_of_ble_eq_true rfl) ((congrFun (F9_eq _ steps_1p steps_1l steps_1c) w).mpr h)
theorem F9_call {steps_1p : Option Addr} {steps_1l : Nat} {steps_1c : Nat} {w : World} {g : Fn W (RTy.leaves (.s (.one .slice)))} (h : F9 (fun v => Back (.s (.one .slice)) g (.returned v)) steps_1p steps_1l steps_1c w) : CallT Go.Proofs.Try.prog 9 [.slice steps_1p steps_1l steps_1c] (.s (.one .slice)) g w := F9_calls h

/-! ## impl.FHStep] -/
def F12 (k : Value → W) (s_1p : Option Addr) (s_1l : Nat) (s_1c : Nat) : W :=
 BIf s_1p.isNone (
  k (.slice none 0 0)) (
  RawT Go.Proofs.Try.prog (Instr.buildSlice 27 0 [].toArray) (.s (.one .slice)) fun s2p s2l s2c =>
  NextT Go.Proofs.Try.prog (builtin .append #[27, 27] 27 [false, false].toArray [.slice s2p s2l s2c, .slice s_1p s_1l s_1c].toArray) (.s (.one .slice)) fun s3p s3l s3c =>
  k (.slice s3p s3l s3c))
theorem F12_eq (k : Value → W) (s_1p : Option Addr) (s_1l : Nat) (s_1c : Nat) : compF Go.Proofs.Try.prog Go.Proofs.Try.f12 [] (Go.Proofs.Try.f12.body.getD .skip) [.slice s_1p s_1l s_1c] k = F12 k s_1p s_1l s_1c := by kernel_rfl
theorem F12_calls {s_1p : Option Addr} {s_1l : Nat} {s_1c : Nat} {w : World} {R : Ending → World → Prop} (h : F12 (fun v w => R (.returned v) w) s_1p s_1l s_1c w) : Calls Go.Proofs.Try.prog 12 #[.slice s_1p s_1l s_1c] w R :=
  calls_of_compF noNum follows [] (f := 12) (fn := Go.Proofs.Try.f12) (body := Go.Proofs.Try.f12.body.getD .skip) (args := [.slice s_1p s_1l s_1c]) rfl rfl (Nat.le_of_ble_eq_true rfl) ((congrFun (F12_eq _ s_1p s_1l s_1c) w).mpr h)
theorem F12_call {s_1p : Option Addr} {s_1l : Nat} {s_1c : Nat} {w : World} {g : Fn W (RTy.leaves (.s (.one .slice)))} (h : F12 (fun v => Back (.s (.one .slice)) g (.returned v)) s_1p s_1l s_1c w) : CallT Go.Proofs.Try.prog 12 [.slice s_1p s_1l s_1c] (.s (.one .slice)) g w := F12_calls h

/-! ## laws.dfEnqueue -/
def F8_L1 (k : Value → W) (again8 : Int → Option Addr → Nat → Nat → Option Addr → Nat → Nat → Int → Int → W) (by_3 : Int) (out_4p : Option Addr) (out_4l : Nat) (out_4c : Nat) (s5p : Option Addr) (s5l : Nat) (s5c : Nat) (x6 : Int) (x7 : Int) : W :=
 BIf (decide (x7 < x6)) (
  NN s5p fun a9 =>
  Req (0 ≤ x7 ∧ x7 < ((s5l : Nat) : Int)) <|
  LoadT (.int .i16) (a9.add x7.toNat) fun x10 =>
  RawT Go.Proofs.Try.prog (Instr.buildSlice 27 1 [(0, .agg #[.int .i64 1, .int .i64 0, .int .i64 (addI .i64 (IntKind.wrap .i64 x10) by_3), .slice none 0 0])].toArray) (.s (.one .slice)) fun s11p s11l s11c =>
  NextT Go.Proofs.Try.prog (builtin .append #[27, 27] 27 [false, false].toArray [.slice out_4p out_4l out_4c, .slice s11p s11l s11c].toArray) (.s (.one .slice)) fun s12p s12l s12c =>
  again8 by_3 s12p s12l s12c s5p s5l s5c x6 (addI .i64 x7 1)) (
  k (.slice out_4p out_4l out_4c))
theorem F8_L1_rule {k : Value → W} (I : Int → Option Addr → Nat → Nat → Option Addr → Nat → Nat → Int → Int → W) (μ : Int → Option Addr → Nat → Nat → Option Addr → Nat → Nat → Int → Int → World → Nat)
  (hr : ∀ (by_3 : Int) (out_4p : Option Addr) (out_4l : Nat) (out_4c : Nat) (s5p : Option Addr) (s5l : Nat) (s5c : Nat) (x6 : Int) (x7 : Int) (w : World), I by_3 out_4p out_4l out_4c s5p s5l s5c x6 x7 w → F8_L1 k (fun by_3' out_4p' out_4l' out_4c' s5p' s5l' s5c' x6' x7' w' => I by_3' out_4p' out_4l' out_4c' s5p' s5l' s5c' x6' x7' w' ∧ μ by_3' out_4p' out_4l' out_4c' s5p' s5l' s5c' x6' x7' w' < μ by_3 out_4p out_4l out_4c s5p s5l s5c x6 x7 w) by_3 out_4p out_4l out_4c s5p s5l s5c x6 x7 w)
  {w : World} {by_3 : Int} {out_4p : Option Addr} {out_4l : Nat} {out_4c : Nat} {s5p : Option Addr} {s5l : Nat} {s5c : Nat} {x6 : Int} {x7 : Int} (h : I by_3 out_4p out_4l out_4c s5p s5l s5c x6 x7 w) : Loop [(.int .i64), .slice, .slice, (.int .i64), (.int .i64)] (F8_L1 k) by_3 out_4p out_4l out_4c s5p s5l s5c x6 x7 w :=
  Loop_intro (ts := [(.int .i64), .slice, .slice, (.int .i64), (.int .i64)]) (s := (by_3, (out_4p, out_4l, out_4c), (s5p, s5l, s5c), x6, x7, ())) (fun s w => I s.1 s.2.1.1 s.2.1.2.1 s.2.1.2.2 s.2.2.1.1 s.2.2.1.2.1 s.2.2.1.2.2 s.2.2.2.1 s.2.2.2.2.1 w) (fun s w => μ s.1 s.2.1.1 s.2.1.2.1 s.2.1.2.2 s.2.2.1.1 s.2.2.1.2.1 s.2.2.1.2.2 s.2.2.2.1 s.2.2.2.2.1 w) h (fun s w h => hr s.1 s.2.1.1 s.2.1.2.1 s.2.1.2.2 s.2.2.1.1 s.2.2.1.2.1 s.2.2.1.2.2 s.2.2.2.1 s.2.2.2.2.1 w h)
def F8 (k : Value → W) (l_1p : Option Addr) (l_1l : Nat) (l_1c : Nat) (by_2 : Int) : W :=
 Loop [(.int .i64), .slice, .slice, (.int .i64), (.int .i64)] (F8_L1 k) by_2 none 0 0 l_1p l_1l l_1c ((l_1l : Nat) : Int) 0
theorem F8_eq (k : Value → W) (l_1p : Option Addr) (l_1l : Nat) (l_1c : Nat) (by_2 : Int) : compF Go.Proofs.Try.prog Go.Proofs.Try.f8 [(3, [(1, (.int .i64)), (5, .slice), (8, .slice), (9, (.int .i64)), (10, (.int .i64))])] (Go.Proofs.Try.f8.body.getD .skip) [.slice l_1p l_1l l_1c, .int .i64 by_2] k = F8 k l_1p l_1l l_1c by_2 := by kernel_rfl
theorem F8_calls {l_1p : Option Addr} {l_1l : Nat} {l_1c : Nat} {by_2 : Int} {w : World} {R : Ending → World → Prop} (h : F8 (fun v w => R (.returned v) w) l_1p l_1l l_1c by_2 w) : Calls Go.Proofs.Try.prog 8 #[.slice l_1p l_1l l_1c, .int .i64 by_2] w R :=
  calls_of_compF noNum follows [(3, [(1, (.int .i64)), (5, .slice), (8, .slice), (9, (.int .i64)), (10, (.int .i64))])] (f := 8) (fn := Go.Proofs.Try.f8) (body := Go.Proofs.Try.f8.body.getD .skip) (args := [.slice l_1p l_1l l_1c, .int .i64 by_2]) rfl rfl (Nat.le_of_ble_eq_true rfl) ((congrFun (F8_eq _ l_1p l_1l l_1c by_2) w).mpr h)
theorem F8_call {l_1p : Option Addr} {l_1l : Nat} {l_1c : Nat} {by_2 : Int} {w : World} {g : Fn W (RTy.leaves (.s (.one .slice)))} (h : F8 (fun v => Back (.s (.one .slice)) g (.returned v)) l_1p l_1l l_1c by_2 w) : CallT Go.Proofs.Try.prog 8 [.slice l_1p l_1l l_1c, .int .i64 by_2] (.s (.one .slice)) g w := F8_calls h

/-! ## laws.dfOut -/
def F7_L2 (k : Value → W) (again26 : Int → Option Addr → Nat → Nat → Option Addr → Nat → Nat → Int → Int → W) (n_21 : Int) (out_22p : Option Addr) (out_22l : Nat) (out_22c : Nat) (s23p : Option Addr) (s23l : Nat) (s23c : Nat) (x24 : Int) (x25 : Int) : W :=
 BIf (decide (x25 < x24)) (
  NN s23p fun a27 =>
  Req (0 ≤ x25 ∧ x25 < ((s23l : Nat) : Int)) <|
  LoadT .bool ((a27.add (x25.toNat * 5)).add 0) fun b28 =>
  LoadT (.int .i64) ((a27.add (x25.toNat * 5)).add 1) fun x29 =>
  LoadT (.int .i64) ((a27.add (x25.toNat * 5)).add 2) fun x30 =>
  LoadT (.int .i64) ((a27.add (x25.toNat * 5)).add 3) fun x31 =>
  LoadT .bool ((a27.add (x25.toNat * 5)).add 4) fun b32 =>
  New [.bool false, .int .i64 0, .int .i64 0, .int .i64 0, .bool false] 34 fun n33 =>
  Store1 ⟨n33, 0, none⟩ (.bool b28) <|
  Store1 ⟨n33, 1, none⟩ (.int .i64 x29) <|
  Store1 ⟨n33, 2, none⟩ (.int .i64 x30) <|
  Store1 ⟨n33, 3, none⟩ (.int .i64 x31) <|
  Store1 ⟨n33, 4, none⟩ (.bool b32) <|
  LoadT .bool ⟨n33, 0, none⟩ fun b34 =>
  BIf (!b34) (
   k (.tuple #[.slice none 0 0, .bool false])) (
   BIf (decide (x25 ≥ n_21)) (
    LoadT (.int .i64) ⟨n33, 2, none⟩ fun x35 =>
    RawT Go.Proofs.Try.prog (Instr.buildSlice 24 1 [(0, .int .i64 x35)].toArray) (.s (.one .slice)) fun s36p s36l s36c =>
    NextT Go.Proofs.Try.prog (builtin .append #[24, 24] 24 [false, false].toArray [.slice out_22p out_22l out_22c, .slice s36p s36l s36c].toArray) (.s (.one .slice)) fun s37p s37l s37c =>
    again26 n_21 s37p s37l s37c s23p s23l s23c x24 (addI .i64 x25 1)) (
    again26 n_21 out_22p out_22l out_22c s23p s23l s23c x24 (addI .i64 x25 1)))) (
  k (.tuple #[.slice out_22p out_22l out_22c, .bool true]))
theorem F7_L2_rule {k : Value → W} (I : Int → Option Addr → Nat → Nat → Option Addr → Nat → Nat → Int → Int → W) (μ : Int → Option Addr → Nat → Nat → Option Addr → Nat → Nat → Int → Int → World → Nat)
  (hr : ∀ (n_21 : Int) (out_22p : Option Addr) (out_22l : Nat) (out_22c : Nat) (s23p : Option Addr) (s23l : Nat) (s23c : Nat) (x24 : Int) (x25 : Int) (w : World), I n_21 out_22p out_22l out_22c s23p s23l s23c x24 x25 w → F7_L2 k (fun n_21' out_22p' out_22l' out_22c' s23p' s23l' s23c' x24' x25' w' => I n_21' out_22p' out_22l' out_22c' s23p' s23l' s23c' x24' x25' w' ∧ μ n_21' out_22p' out_22l' out_22c' s23p' s23l' s23c' x24' x25' w' < μ n_21 out_22p out_22l out_22c s23p s23l s23c x24 x25 w) n_21 out_22p out_22l out_22c s23p s23l s23c x24 x25 w)
  {w : World} {n_21 : Int} {out_22p : Option Addr} {out_22l : Nat} {out_22c : Nat} {s23p : Option Addr} {s23l : Nat} {s23c : Nat} {x24 : Int} {x25 : Int} (h : I n_21 out_22p out_22l out_22c s23p s23l s23c x24 x25 w) : Loop [(.int .i64), .slice, .slice, (.int .i64), (.int .i64)] (F7_L2 k) n_21 out_22p out_22l out_22c s23p s23l s23c x24 x25 w :=
  Loop_intro (ts := [(.int .i64), .slice, .slice, (.int .i64), (.int .i64)]) (s := (n_21, (out_22p, out_22l, out_22c), (s23p, s23l, s23c), x24, x25, ())) (fun s w => I s.1 s.2.1.1 s.2.1.2.1 s.2.1.2.2 s.2.2.1.1 s.2.2.1.2.1 s.2.2.1.2.2 s.2.2.2.1 s.2.2.2.2.1 w) (fun s w => μ s.1 s.2.1.1 s.2.1.2.1 s.2.1.2.2 s.2.2.1.1 s.2.2.1.2.1 s.2.2.1.2.2 s.2.2.2.1 s.2.2.2.2.1 w) h (fun s w h => hr s.1 s.2.1.1 s.2.1.2.1 s.2.1.2.2 s.2.2.1.1 s.2.2.1.2.1 s.2.2.1.2.2 s.2.2.2.1 s.2.2.2.2.1 w h)
def F7_J2 (k : Value → W) (n_18 : Int) (said_19p : Option Addr) (said_19l : Nat) (said_19c : Nat) (b20 : Bool) : W :=
 BIf b20 (
  k (.tuple #[.slice none 0 0, .bool false])) (
  Loop [(.int .i64), .slice, .slice, (.int .i64), (.int .i64)] (F7_L2 k) n_18 none 0 0 said_19p said_19l said_19c ((said_19l : Nat) : Int) 0)
def F7_L1 (k : Value → W) (again14 : Int → Int → Option Addr → Nat → Nat → Int → Int → W) (many_9 : Int) (n_10 : Int) (all_11p : Option Addr) (all_11l : Nat) (all_11c : Nat) (x12 : Int) (x13 : Int) : W :=
 BIf (decide (x13 < x12)) (
  RawT Go.Proofs.Try.prog (Instr.buildSlice 27 1 [(0, .agg #[.int .i64 3, .int .i64 0, .int .i64 0, .slice none 0 0])].toArray) (.s (.one .slice)) fun s15p s15l s15c =>
  NextT Go.Proofs.Try.prog (builtin .append #[27, 27] 27 [false, false].toArray [.slice all_11p all_11l all_11c, .slice s15p s15l s15c].toArray) (.s (.one .slice)) fun s16p s16l s16c =>
  again14 many_9 n_10 s16p s16l s16c x12 (addI .i64 x13 1)) (
  CallT Go.Proofs.Try.prog 9 [.slice all_11p all_11l all_11c] (.s (.one .slice)) fun s17p s17l s17c =>
  BIf (((s17l : Nat) : Int) != ((all_11l : Nat) : Int)) (
   F7_J2 k n_10 s17p s17l s17c true) (
   BIf (decide (many_9 > 0)) (
    NN s17p fun a38 =>
    Req (0 ≤ subI .i64 ((all_11l : Nat) : Int) 1 ∧ subI .i64 ((all_11l : Nat) : Int) 1 < ((s17l : Nat) : Int)) <|
    LoadT .bool ((a38.add ((subI .i64 ((all_11l : Nat) : Int) 1).toNat * 5)).add 4) fun b39 =>
    F7_J2 k n_10 s17p s17l s17c (!b39)) (
    F7_J2 k n_10 s17p s17l s17c false)))
theorem F7_L1_rule {k : Value → W} (I : Int → Int → Option Addr → Nat → Nat → Int → Int → W) (μ : Int → Int → Option Addr → Nat → Nat → Int → Int → World → Nat)
  (hr : ∀ (many_9 : Int) (n_10 : Int) (all_11p : Option Addr) (all_11l : Nat) (all_11c : Nat) (x12 : Int) (x13 : Int) (w : World), I many_9 n_10 all_11p all_11l all_11c x12 x13 w → F7_L1 k (fun many_9' n_10' all_11p' all_11l' all_11c' x12' x13' w' => I many_9' n_10' all_11p' all_11l' all_11c' x12' x13' w' ∧ μ many_9' n_10' all_11p' all_11l' all_11c' x12' x13' w' < μ many_9 n_10 all_11p all_11l all_11c x12 x13 w) many_9 n_10 all_11p all_11l all_11c x12 x13 w)
  {w : World} {many_9 : Int} {n_10 : Int} {all_11p : Option Addr} {all_11l : Nat} {all_11c : Nat} {x12 : Int} {x13 : Int} (h : I many_9 n_10 all_11p all_11l all_11c x12 x13 w) : Loop [(.int .i64), (.int .i64), .slice, (.int .i64), (.int .i64)] (F7_L1 k) many_9 n_10 all_11p all_11l all_11c x12 x13 w :=
  Loop_intro (ts := [(.int .i64), (.int .i64), .slice, (.int .i64), (.int .i64)]) (s := (many_9, n_10, (all_11p, all_11l, all_11c), x12, x13, ())) (fun s w => I s.1 s.2.1 s.2.2.1.1 s.2.2.1.2.1 s.2.2.1.2.2 s.2.2.2.1 s.2.2.2.2.1 w) (fun s w => μ s.1 s.2.1 s.2.2.1.1 s.2.2.1.2.1 s.2.2.1.2.2 s.2.2.2.1 s.2.2.2.2.1 w) h (fun s w h => hr s.1 s.2.1 s.2.2.1.1 s.2.2.1.2.1 s.2.2.1.2.2 s.2.2.2.1 s.2.2.2.2.1 w h)
def F7_J1 (k : Value → W) (steps_5p : Option Addr) (steps_5l : Nat) (steps_5c : Nat) (many_6 : Int) (b7 : Bool) : W :=
 BIf b7 (
  k (.tuple #[.slice none 0 0, .bool false])) (
  CallT Go.Proofs.Try.prog 12 [.slice steps_5p steps_5l steps_5c] (.s (.one .slice)) fun s8p s8l s8c =>
  Loop [(.int .i64), (.int .i64), .slice, (.int .i64), (.int .i64)] (F7_L1 k) many_6 ((steps_5l : Nat) : Int) s8p s8l s8c many_6 0)
def F7 (k : Value → W) (steps_1p : Option Addr) (steps_1l : Nat) (steps_1c : Nat) (many_2 : Int) : W :=
 RawT Go.Proofs.Try.prog (Instr.buildSlice 27 3 [(0, .agg #[.int .i64 1, .int .i64 0, .int .i64 7, .slice none 0 0]), (1, .agg #[.int .i64 1, .int .i64 0, .int .i64 4, .slice none 0 0]), (2, .agg #[.int .i64 3, .int .i64 0, .int .i64 0, .slice none 0 0])].toArray) (.s (.one .slice)) fun s3p s3l s3c =>
 CallT Go.Proofs.Try.prog 9 [.slice s3p s3l s3c] (.s (.one .slice)) fun s4p s4l s4c =>
 BIf (((s4l : Nat) : Int) != 3) (
  F7_J1 k steps_1p steps_1l steps_1c many_2 true) (
  NN s4p fun a40 =>
  Req (0 ≤ (2 : Int) ∧ (2 : Int) < ((s4l : Nat) : Int)) <|
  LoadT (.int .i64) ((a40.add ((2 : Int).toNat * 5)).add 2) fun x41 =>
  BIf (x41 != 4) (
   F7_J1 k steps_1p steps_1l steps_1c many_2 true) (
   NN s4p fun a42 =>
   Req (0 ≤ (2 : Int) ∧ (2 : Int) < ((s4l : Nat) : Int)) <|
   LoadT (.int .i64) ((a42.add ((2 : Int).toNat * 5)).add 1) fun x43 =>
   BIf (x43 != 1) (
    F7_J1 k steps_1p steps_1l steps_1c many_2 true) (
    NN s4p fun a44 =>
    Req (0 ≤ (2 : Int) ∧ (2 : Int) < ((s4l : Nat) : Int)) <|
    LoadT (.int .i64) ((a44.add ((2 : Int).toNat * 5)).add 3) fun x45 =>
    F7_J1 k steps_1p steps_1l steps_1c many_2 (x45 != 1))))
theorem F7_eq (k : Value → W) (steps_1p : Option Addr) (steps_1l : Nat) (steps_1c : Nat) (many_2 : Int) : compF Go.Proofs.Try.prog Go.Proofs.Try.f7 [(7, [(1, (.int .i64)), (7, (.int .i64)), (8, .slice), (46, (.int .i64)), (47, (.int .i64))]), (15, [(7, (.int .i64)), (10, .slice), (75, .slice), (76, (.int .i64)), (77, (.int .i64))])] (Go.Proofs.Try.f7.body.getD .skip) [.slice steps_1p steps_1l steps_1c, .int .i64 many_2] k = F7 k steps_1p steps_1l steps_1c many_2 := by kernel_rfl
theorem F7_calls {steps_1p : Option Addr} {steps_1l : Nat} {steps_1c : Nat} {many_2 : Int} {w : World} {R : Ending → World → Prop} (h : F7 (fun v w => R (.returned v) w) steps_1p steps_1l steps_1c many_2 w) : Calls Go.Proofs.Try.prog 7 #[.slice steps_1p steps_1l steps_1c, .int .i64 many_2] w R :=
  calls_of_compF noNum follows [(7, [(1, (.int .i64)), (7, (.int .i64)), (8, .slice), (46, (.int .i64)), (47, (.int .i64))]), (15, [(7, (.int .i64)), (10, .slice), (75, .slice), (76, (.int .i64)), (77, (.int .i64))])] (f := 7) (fn := Go.Proofs.Try.f7) (body := Go.Proofs.Try.f7.body.getD .skip) (args := [.slice steps_1p steps_1l steps_1c, .int .i64 many_2]) rfl rfl (Nat.le_of_ble_eq_true rfl) ((congrFun (F7_eq _ steps_1p steps_1l steps_1c many_2) w).mpr h)
theorem F7_call {steps_1p : Option Addr} {steps_1l : Nat} {steps_1c : Nat} {many_2 : Int} {w : World} {g : Fn W (RTy.leaves (.tup [(.one .slice), (.one .bool)]))} (h : F7 (fun v => Back (.tup [(.one .slice), (.one .bool)]) g (.returned v)) steps_1p steps_1l steps_1c many_2 w) : CallT Go.Proofs.Try.prog 7 [.slice steps_1p steps_1l steps_1c, .int .i64 many_2] (.tup [(.one .slice), (.one .bool)]) g w := F7_calls h

/-! ## slices.Equal[[]int,int] -/
def F10_L1 (k : Value → W) (again7 : Option Addr → Nat → Nat → Option Addr → Nat → Nat → Int → Int → W) (s1_3p : Option Addr) (s1_3l : Nat) (s1_3c : Nat) (s2_4p : Option Addr) (s2_4l : Nat) (s2_4c : Nat) (x5 : Int) (x6 : Int) : W :=
 BIf (decide (x6 < x5)) (
  Drw <|
  NN s1_3p fun a8 =>
  Req (0 ≤ x6 ∧ x6 < ((s1_3l : Nat) : Int)) <|
  LoadT (.int .i64) (a8.add x6.toNat) fun x9 =>
  NN s2_4p fun a10 =>
  Req (0 ≤ x6 ∧ x6 < ((s2_4l : Nat) : Int)) <|
  LoadT (.int .i64) (a10.add x6.toNat) fun x11 =>
  BIf (x9 != x11) (
   k (.bool false)) (
   again7 s1_3p s1_3l s1_3c s2_4p s2_4l s2_4c x5 (addI .i64 x6 1))) (
  k (.bool true))
theorem F10_L1_rule {k : Value → W} (I : Option Addr → Nat → Nat → Option Addr → Nat → Nat → Int → Int → W) (μ : Option Addr → Nat → Nat → Option Addr → Nat → Nat → Int → Int → World → Nat)
  (hr : ∀ (s1_3p : Option Addr) (s1_3l : Nat) (s1_3c : Nat) (s2_4p : Option Addr) (s2_4l : Nat) (s2_4c : Nat) (x5 : Int) (x6 : Int) (w : World), I s1_3p s1_3l s1_3c s2_4p s2_4l s2_4c x5 x6 w → F10_L1 k (fun s1_3p' s1_3l' s1_3c' s2_4p' s2_4l' s2_4c' x5' x6' w' => I s1_3p' s1_3l' s1_3c' s2_4p' s2_4l' s2_4c' x5' x6' w' ∧ μ s1_3p' s1_3l' s1_3c' s2_4p' s2_4l' s2_4c' x5' x6' w' < μ s1_3p s1_3l s1_3c s2_4p s2_4l s2_4c x5 x6 w) s1_3p s1_3l s1_3c s2_4p s2_4l s2_4c x5 x6 w)
  {w : World} {s1_3p : Option Addr} {s1_3l : Nat} {s1_3c : Nat} {s2_4p : Option Addr} {s2_4l : Nat} {s2_4c : Nat} {x5 : Int} {x6 : Int} (h : I s1_3p s1_3l s1_3c s2_4p s2_4l s2_4c x5 x6 w) : Loop [.slice, .slice, (.int .i64), (.int .i64)] (F10_L1 k) s1_3p s1_3l s1_3c s2_4p s2_4l s2_4c x5 x6 w :=
  Loop_intro (ts := [.slice, .slice, (.int .i64), (.int .i64)]) (s := ((s1_3p, s1_3l, s1_3c), (s2_4p, s2_4l, s2_4c), x5, x6, ())) (fun s w => I s.1.1 s.1.2.1 s.1.2.2 s.2.1.1 s.2.1.2.1 s.2.1.2.2 s.2.2.1 s.2.2.2.1 w) (fun s w => μ s.1.1 s.1.2.1 s.1.2.2 s.2.1.1 s.2.1.2.1 s.2.1.2.2 s.2.2.1 s.2.2.2.1 w) h (fun s w h => hr s.1.1 s.1.2.1 s.1.2.2 s.2.1.1 s.2.1.2.1 s.2.1.2.2 s.2.2.1 s.2.2.2.1 w h)
def F10 (k : Value → W) (s1_1p : Option Addr) (s1_1l : Nat) (s1_1c : Nat) (s2_2p : Option Addr) (s2_2l : Nat) (s2_2c : Nat) : W :=
 BIf (((s1_1l : Nat) : Int) != ((s2_2l : Nat) : Int)) (
  k (.bool false)) (
  Loop [.slice, .slice, (.int .i64), (.int .i64)] (F10_L1 k) s1_1p s1_1l s1_1c s2_2p s2_2l s2_2c ((s1_1l : Nat) : Int) 0)
theorem F10_eq (k : Value → W) (s1_1p : Option Addr) (s1_1l : Nat) (s1_1c : Nat) (s2_2p : Option Addr) (s2_2l : Nat) (s2_2c : Nat) : compF Go.Proofs.Try.prog Go.Proofs.Try.f10 [(4, [(0, .slice), (1, .slice), (12, (.int .i64)), (13, (.int .i64))])] (Go.Proofs.Try.f10.body.getD .skip) [.slice s1_1p s1_1l s1_1c, .slice s2_2p s2_2l s2_2c] k = F10 k s1_1p s1_1l s1_1c s2_2p s2_2l s2_2c := by kernel_rfl
theorem F10_calls {s1_1p : Option Addr} {s1_1l : Nat} {s1_1c : Nat} {s2_2p : Option Addr} {s2_2l : Nat} {s2_2c : Nat} {w : World} {R : Ending → World → Prop} (h : F10 (fun v w => R (.returned v) w) s1_1p s1_1l s1_1c s2_2p s2_2l s2_2c w) : Calls Go.Proofs.Try.prog 10 #[.slice s1_1p s1_1l s1_1c, .slice s2_2p s2_2l s2_2c] w R :=
  calls_of_compF noNum follows [(4, [(0, .slice), (1, .slice), (12, (.int .i64)), (13, (.int .i64))])] (f := 10) (fn := Go.Proofs.Try.f10) (body := Go.Proofs.Try.f10.body.getD .skip) (args := [.slice s1_1p s1_1l s1_1c, .slice s2_2p s2_2l s2_2c]) rfl rfl (Nat.le_of_ble_eq_true rfl) ((congrFun (F10_eq _ s1_1p s1_1l s1_1c s2_2p s2_2l s2_2c) w).mpr h)
theorem F10_call {s1_1p : Option Addr} {s1_1l : Nat} {s1_1c : Nat} {s2_2p : Option Addr} {s2_2l : Nat} {s2_2c : Nat} {w : World} {g : Fn W (RTy.leaves (.s (.one .bool)))} (h : F10 (fun v => Back (.s (.one .bool)) g (.returned v)) s1_1p s1_1l s1_1c s2_2p s2_2l s2_2c w) : CallT Go.Proofs.Try.prog 10 [.slice s1_1p s1_1l s1_1c, .slice s2_2p s2_2l s2_2c] (.s (.one .bool)) g w := F10_calls h

/-! ## laws.dxPlus -/
def F11_L1 (k : Value → W) (again8 : Int → Option Addr → Nat → Nat → Option Addr → Nat → Nat → Int → Int → W) (by_3 : Int) (out_4p : Option Addr) (out_4l : Nat) (out_4c : Nat) (s5p : Option Addr) (s5l : Nat) (s5c : Nat) (x6 : Int) (x7 : Int) : W :=
 BIf (decide (x7 < x6)) (
  NN s5p fun a9 =>
  Req (0 ≤ x7 ∧ x7 < ((s5l : Nat) : Int)) <|
  LoadT (.int .i64) (a9.add x7.toNat) fun x10 =>
  RawT Go.Proofs.Try.prog (Instr.buildSlice 24 1 [(0, .int .i64 (addI .i64 x10 by_3))].toArray) (.s (.one .slice)) fun s11p s11l s11c =>
  NextT Go.Proofs.Try.prog (builtin .append #[24, 24] 24 [false, false].toArray [.slice out_4p out_4l out_4c, .slice s11p s11l s11c].toArray) (.s (.one .slice)) fun s12p s12l s12c =>
  again8 by_3 s12p s12l s12c s5p s5l s5c x6 (addI .i64 x7 1)) (
  k (.slice out_4p out_4l out_4c))
theorem F11_L1_rule {k : Value → W} (I : Int → Option Addr → Nat → Nat → Option Addr → Nat → Nat → Int → Int → W) (μ : Int → Option Addr → Nat → Nat → Option Addr → Nat → Nat → Int → Int → World → Nat)
  (hr : ∀ (by_3 : Int) (out_4p : Option Addr) (out_4l : Nat) (out_4c : Nat) (s5p : Option Addr) (s5l : Nat) (s5c : Nat) (x6 : Int) (x7 : Int) (w : World), I by_3 out_4p out_4l out_4c s5p s5l s5c x6 x7 w → F11_L1 k (fun by_3' out_4p' out_4l' out_4c' s5p' s5l' s5c' x6' x7' w' => I by_3' out_4p' out_4l' out_4c' s5p' s5l' s5c' x6' x7' w' ∧ μ by_3' out_4p' out_4l' out_4c' s5p' s5l' s5c' x6' x7' w' < μ by_3 out_4p out_4l out_4c s5p s5l s5c x6 x7 w) by_3 out_4p out_4l out_4c s5p s5l s5c x6 x7 w)
  {w : World} {by_3 : Int} {out_4p : Option Addr} {out_4l : Nat} {out_4c : Nat} {s5p : Option Addr} {s5l : Nat} {s5c : Nat} {x6 : Int} {x7 : Int} (h : I by_3 out_4p out_4l out_4c s5p s5l s5c x6 x7 w) : Loop [(.int .i64), .slice, .slice, (.int .i64), (.int .i64)] (F11_L1 k) by_3 out_4p out_4l out_4c s5p s5l s5c x6 x7 w :=
  Loop_intro (ts := [(.int .i64), .slice, .slice, (.int .i64), (.int .i64)]) (s := (by_3, (out_4p, out_4l, out_4c), (s5p, s5l, s5c), x6, x7, ())) (fun s w => I s.1 s.2.1.1 s.2.1.2.1 s.2.1.2.2 s.2.2.1.1 s.2.2.1.2.1 s.2.2.1.2.2 s.2.2.2.1 s.2.2.2.2.1 w) (fun s w => μ s.1 s.2.1.1 s.2.1.2.1 s.2.1.2.2 s.2.2.1.1 s.2.2.1.2.1 s.2.2.1.2.2 s.2.2.2.1 s.2.2.2.2.1 w) h (fun s w h => hr s.1 s.2.1.1 s.2.1.2.1 s.2.1.2.2 s.2.2.1.1 s.2.2.1.2.1 s.2.2.1.2.2 s.2.2.2.1 s.2.2.2.2.1 w h)
def F11 (k : Value → W) (l_1p : Option Addr) (l_1l : Nat) (l_1c : Nat) (by_2 : Int) : W :=
 Loop [(.int .i64), .slice, .slice, (.int .i64), (.int .i64)] (F11_L1 k) by_2 none 0 0 l_1p l_1l l_1c ((l_1l : Nat) : Int) 0
theorem F11_eq (k : Value → W) (l_1p : Option Addr) (l_1l : Nat) (l_1c : Nat) (by_2 : Int) : compF Go.Proofs.Try.prog Go.Proofs.Try.f11 [(3, [(1, (.int .i64)), (5, .slice), (8, .slice), (9, (.int .i64)), (10, (.int .i64))])] (Go.Proofs.Try.f11.body.getD .skip) [.slice l_1p l_1l l_1c, .int .i64 by_2] k = F11 k l_1p l_1l l_1c by_2 := by kernel_rfl
theorem F11_calls {l_1p : Option Addr} {l_1l : Nat} {l_1c : Nat} {by_2 : Int} {w : World} {R : Ending → World → Prop} (h : F11 (fun v w => R (.returned v) w) l_1p l_1l l_1c by_2 w) : Calls Go.Proofs.Try.prog 11 #[.slice l_1p l_1l l_1c, .int .i64 by_2] w R :=
  calls_of_compF noNum follows [(3, [(1, (.int .i64)), (5, .slice), (8, .slice), (9, (.int .i64)), (10, (.int .i64))])] (f := 11) (fn := Go.Proofs.Try.f11) (body := Go.Proofs.Try.f11.body.getD .skip) (args := [.slice l_1p l_1l l_1c, .int .i64 by_2]) rfl rfl (Nat.le_of_ble_eq_true rfl) ((congrFun (F11_eq _ l_1p l_1l l_1c by_2) w).mpr h)
theorem F11_call {l_1p : Option Addr} {l_1l : Nat} {l_1c : Nat} {by_2 : Int} {w : World} {g : Fn W (RTy.leaves (.s (.one .slice)))} (h : F11 (fun v => Back (.s (.one .slice)) g (.returned v)) l_1p l_1l l_1c by_2 w) : CallT Go.Proofs.Try.prog 11 [.slice l_1p l_1l l_1c, .int .i64 by_2] (.s (.one .slice)) g w := F11_calls h

/-! ## laws.FnFHLook -/
def F3_J1 (k : Value → W) (again22 : Option Addr → Nat → Nat → Option Addr → Nat → Nat → Option Addr → Nat → Nat → Int → Int → W) (l_37p : Option Addr) (l_37l : Nat) (l_37c : Nat) (a_38p : Option Addr) (a_38l : Nat) (a_38c : Nat) (said_39p : Option Addr) (said_39l : Nat) (said_39c : Nat) (i_40 : Int) (x_41 : Addr) (y_42 : Addr) (x43 : Int) (x44 : Int) : W :=
 Drw <|
 LoadT .bool x_41 fun b45 =>
 BIf (!b45) (
  k (.bool false)) (
  LoadT .bool y_42 fun b46 =>
  BIf (!b46) (
   k (.bool false)) (
   LoadT (.int .i64) (x_41.add 2) fun x47 =>
   LoadT (.int .i64) (y_42.add 2) fun x48 =>
   BIf (x47 != x48) (
    k (.bool false)) (
    LoadT (.int .i64) (x_41.add 1) fun x49 =>
    LoadT (.int .i64) (y_42.add 1) fun x50 =>
    BIf (x49 != x50) (
     k (.bool false)) (
     LoadT (.int .i64) (y_42.add 2) fun x51 =>
     NN a_38p fun a52 =>
     Req (0 ≤ i_40 ∧ i_40 < ((a_38l : Nat) : Int)) <|
     LoadT (.int .i64) (a52.add i_40.toNat) fun x53 =>
     BIf (x51 != x53) (
      k (.bool false)) (
      LoadT (.int .i64) (x_41.add 3) fun x54 =>
      BIf (x54 != (subI .i64 ((l_37l : Nat) : Int) i_40)) (
       k (.bool false)) (
       LoadT (.int .i64) (y_42.add 3) fun x55 =>
       BIf (x55 != (subI .i64 (subI .i64 ((l_37l : Nat) : Int) i_40) 1)) (
        k (.bool false)) (
        again22 l_37p l_37l l_37c a_38p a_38l a_38c said_39p said_39l said_39c x43 (addI .i64 x44 1))))))))
def F3_L2 (k : Value → W) (again22 : Option Addr → Nat → Nat → Option Addr → Nat → Nat → Option Addr → Nat → Nat → Int → Int → W) (l_17p : Option Addr) (l_17l : Nat) (l_17c : Nat) (a_18p : Option Addr) (a_18l : Nat) (a_18c : Nat) (said_19p : Option Addr) (said_19l : Nat) (said_19c : Nat) (x20 : Int) (x21 : Int) : W :=
 BIf (decide (x21 < x20)) (
  Drw <|
  NN said_19p fun a23 =>
  Req (0 ≤ addI .i64 ((l_17l : Nat) : Int) (mulI .i64 2 x21) ∧ addI .i64 ((l_17l : Nat) : Int) (mulI .i64 2 x21) < ((said_19l : Nat) : Int)) <|
  LoadT .bool ((a23.add ((addI .i64 ((l_17l : Nat) : Int) (mulI .i64 2 x21)).toNat * 5)).add 0) fun b24 =>
  LoadT (.int .i64) ((a23.add ((addI .i64 ((l_17l : Nat) : Int) (mulI .i64 2 x21)).toNat * 5)).add 1) fun x25 =>
  LoadT (.int .i64) ((a23.add ((addI .i64 ((l_17l : Nat) : Int) (mulI .i64 2 x21)).toNat * 5)).add 2) fun x26 =>
  LoadT (.int .i64) ((a23.add ((addI .i64 ((l_17l : Nat) : Int) (mulI .i64 2 x21)).toNat * 5)).add 3) fun x27 =>
  LoadT .bool ((a23.add ((addI .i64 ((l_17l : Nat) : Int) (mulI .i64 2 x21)).toNat * 5)).add 4) fun b28 =>
  NN said_19p fun a29 =>
  Req (0 ≤ addI .i64 (addI .i64 ((l_17l : Nat) : Int) (mulI .i64 2 x21)) 1 ∧ addI .i64 (addI .i64 ((l_17l : Nat) : Int) (mulI .i64 2 x21)) 1 < ((said_19l : Nat) : Int)) <|
  LoadT .bool ((a29.add ((addI .i64 (addI .i64 ((l_17l : Nat) : Int) (mulI .i64 2 x21)) 1).toNat * 5)).add 0) fun b30 =>
  LoadT (.int .i64) ((a29.add ((addI .i64 (addI .i64 ((l_17l : Nat) : Int) (mulI .i64 2 x21)) 1).toNat * 5)).add 1) fun x31 =>
  LoadT (.int .i64) ((a29.add ((addI .i64 (addI .i64 ((l_17l : Nat) : Int) (mulI .i64 2 x21)) 1).toNat * 5)).add 2) fun x32 =>
  LoadT (.int .i64) ((a29.add ((addI .i64 (addI .i64 ((l_17l : Nat) : Int) (mulI .i64 2 x21)) 1).toNat * 5)).add 3) fun x33 =>
  LoadT .bool ((a29.add ((addI .i64 (addI .i64 ((l_17l : Nat) : Int) (mulI .i64 2 x21)) 1).toNat * 5)).add 4) fun b34 =>
  Both (
   New [.bool false, .int .i64 0, .int .i64 0, .int .i64 0, .bool false] 34 fun n35 =>
   Chk1 ((a29.add ((addI .i64 (addI .i64 ((l_17l : Nat) : Int) (mulI .i64 2 x21)) 1).toNat * 5)).add 0) (.bool b30) <|
   Chk1 ((a29.add ((addI .i64 (addI .i64 ((l_17l : Nat) : Int) (mulI .i64 2 x21)) 1).toNat * 5)).add 1) (.int .i64 x31) <|
   Chk1 ((a29.add ((addI .i64 (addI .i64 ((l_17l : Nat) : Int) (mulI .i64 2 x21)) 1).toNat * 5)).add 2) (.int .i64 x32) <|
   Chk1 ((a29.add ((addI .i64 (addI .i64 ((l_17l : Nat) : Int) (mulI .i64 2 x21)) 1).toNat * 5)).add 3) (.int .i64 x33) <|
   Chk1 ((a29.add ((addI .i64 (addI .i64 ((l_17l : Nat) : Int) (mulI .i64 2 x21)) 1).toNat * 5)).add 4) (.bool b34) <|
   Chk1 ((a23.add ((addI .i64 ((l_17l : Nat) : Int) (mulI .i64 2 x21)).toNat * 5)).add 0) (.bool b24) <|
   Chk1 ((a23.add ((addI .i64 ((l_17l : Nat) : Int) (mulI .i64 2 x21)).toNat * 5)).add 1) (.int .i64 x25) <|
   Chk1 ((a23.add ((addI .i64 ((l_17l : Nat) : Int) (mulI .i64 2 x21)).toNat * 5)).add 2) (.int .i64 x26) <|
   Chk1 ((a23.add ((addI .i64 ((l_17l : Nat) : Int) (mulI .i64 2 x21)).toNat * 5)).add 3) (.int .i64 x27) <|
   Chk1 ((a23.add ((addI .i64 ((l_17l : Nat) : Int) (mulI .i64 2 x21)).toNat * 5)).add 4) (.bool b28) <|
   New [.bool false, .int .i64 0, .int .i64 0, .int .i64 0, .bool false] 34 fun n36 =>
   Chk1 ((a29.add ((addI .i64 (addI .i64 ((l_17l : Nat) : Int) (mulI .i64 2 x21)) 1).toNat * 5)).add 0) (.bool b30) <|
   Chk1 ((a29.add ((addI .i64 (addI .i64 ((l_17l : Nat) : Int) (mulI .i64 2 x21)) 1).toNat * 5)).add 1) (.int .i64 x31) <|
   Chk1 ((a29.add ((addI .i64 (addI .i64 ((l_17l : Nat) : Int) (mulI .i64 2 x21)) 1).toNat * 5)).add 2) (.int .i64 x32) <|
   Chk1 ((a29.add ((addI .i64 (addI .i64 ((l_17l : Nat) : Int) (mulI .i64 2 x21)) 1).toNat * 5)).add 3) (.int .i64 x33) <|
   Chk1 ((a29.add ((addI .i64 (addI .i64 ((l_17l : Nat) : Int) (mulI .i64 2 x21)) 1).toNat * 5)).add 4) (.bool b34) <|
   Chk1 ((a23.add ((addI .i64 ((l_17l : Nat) : Int) (mulI .i64 2 x21)).toNat * 5)).add 0) (.bool b24) <|
   Chk1 ((a23.add ((addI .i64 ((l_17l : Nat) : Int) (mulI .i64 2 x21)).toNat * 5)).add 1) (.int .i64 x25) <|
   Chk1 ((a23.add ((addI .i64 ((l_17l : Nat) : Int) (mulI .i64 2 x21)).toNat * 5)).add 2) (.int .i64 x26) <|
   Chk1 ((a23.add ((addI .i64 ((l_17l : Nat) : Int) (mulI .i64 2 x21)).toNat * 5)).add 3) (.int .i64 x27) <|
   Chk1 ((a23.add ((addI .i64 ((l_17l : Nat) : Int) (mulI .i64 2 x21)).toNat * 5)).add 4) (.bool b28) <|
   Store1 ⟨n35, 0, none⟩ (.bool b24) <|
   Store1 ⟨n35, 1, none⟩ (.int .i64 x25) <|
   Store1 ⟨n35, 2, none⟩ (.int .i64 x26) <|
   Store1 ⟨n35, 3, none⟩ (.int .i64 x27) <|
   Store1 ⟨n35, 4, none⟩ (.bool b28) <|
   Chk1 ((a29.add ((addI .i64 (addI .i64 ((l_17l : Nat) : Int) (mulI .i64 2 x21)) 1).toNat * 5)).add 0) (.bool b30) <|
   Chk1 ((a29.add ((addI .i64 (addI .i64 ((l_17l : Nat) : Int) (mulI .i64 2 x21)) 1).toNat * 5)).add 1) (.int .i64 x31) <|
   Chk1 ((a29.add ((addI .i64 (addI .i64 ((l_17l : Nat) : Int) (mulI .i64 2 x21)) 1).toNat * 5)).add 2) (.int .i64 x32) <|
   Chk1 ((a29.add ((addI .i64 (addI .i64 ((l_17l : Nat) : Int) (mulI .i64 2 x21)) 1).toNat * 5)).add 3) (.int .i64 x33) <|
   Chk1 ((a29.add ((addI .i64 (addI .i64 ((l_17l : Nat) : Int) (mulI .i64 2 x21)) 1).toNat * 5)).add 4) (.bool b34) <|
   Store1 ⟨n36, 0, none⟩ (.bool b30) <|
   Store1 ⟨n36, 1, none⟩ (.int .i64 x31) <|
   Store1 ⟨n36, 2, none⟩ (.int .i64 x32) <|
   Store1 ⟨n36, 3, none⟩ (.int .i64 x33) <|
   Store1 ⟨n36, 4, none⟩ (.bool b34) <|
   F3_J1 k again22 l_17p l_17l l_17c a_18p a_18l a_18c said_19p said_19l said_19c x21 ⟨n35, 0, none⟩ ⟨n36, 0, none⟩ x20 x21) (
   New [.bool false, .int .i64 0, .int .i64 0, .int .i64 0, .bool false] 34 fun n56 =>
   Chk1 ((a29.add ((addI .i64 (addI .i64 ((l_17l : Nat) : Int) (mulI .i64 2 x21)) 1).toNat * 5)).add 0) (.bool b30) <|
   Chk1 ((a29.add ((addI .i64 (addI .i64 ((l_17l : Nat) : Int) (mulI .i64 2 x21)) 1).toNat * 5)).add 1) (.int .i64 x31) <|
   Chk1 ((a29.add ((addI .i64 (addI .i64 ((l_17l : Nat) : Int) (mulI .i64 2 x21)) 1).toNat * 5)).add 2) (.int .i64 x32) <|
   Chk1 ((a29.add ((addI .i64 (addI .i64 ((l_17l : Nat) : Int) (mulI .i64 2 x21)) 1).toNat * 5)).add 3) (.int .i64 x33) <|
   Chk1 ((a29.add ((addI .i64 (addI .i64 ((l_17l : Nat) : Int) (mulI .i64 2 x21)) 1).toNat * 5)).add 4) (.bool b34) <|
   Chk1 ((a23.add ((addI .i64 ((l_17l : Nat) : Int) (mulI .i64 2 x21)).toNat * 5)).add 0) (.bool b24) <|
   Chk1 ((a23.add ((addI .i64 ((l_17l : Nat) : Int) (mulI .i64 2 x21)).toNat * 5)).add 1) (.int .i64 x25) <|
   Chk1 ((a23.add ((addI .i64 ((l_17l : Nat) : Int) (mulI .i64 2 x21)).toNat * 5)).add 2) (.int .i64 x26) <|
   Chk1 ((a23.add ((addI .i64 ((l_17l : Nat) : Int) (mulI .i64 2 x21)).toNat * 5)).add 3) (.int .i64 x27) <|
   Chk1 ((a23.add ((addI .i64 ((l_17l : Nat) : Int) (mulI .i64 2 x21)).toNat * 5)).add 4) (.bool b28) <|
   New [.bool false, .int .i64 0, .int .i64 0, .int .i64 0, .bool false] 34 fun n57 =>
   Chk1 ((a29.add ((addI .i64 (addI .i64 ((l_17l : Nat) : Int) (mulI .i64 2 x21)) 1).toNat * 5)).add 0) (.bool b30) <|
   Chk1 ((a29.add ((addI .i64 (addI .i64 ((l_17l : Nat) : Int) (mulI .i64 2 x21)) 1).toNat * 5)).add 1) (.int .i64 x31) <|
   Chk1 ((a29.add ((addI .i64 (addI .i64 ((l_17l : Nat) : Int) (mulI .i64 2 x21)) 1).toNat * 5)).add 2) (.int .i64 x32) <|
   Chk1 ((a29.add ((addI .i64 (addI .i64 ((l_17l : Nat) : Int) (mulI .i64 2 x21)) 1).toNat * 5)).add 3) (.int .i64 x33) <|
   Chk1 ((a29.add ((addI .i64 (addI .i64 ((l_17l : Nat) : Int) (mulI .i64 2 x21)) 1).toNat * 5)).add 4) (.bool b34) <|
   Chk1 ((a23.add ((addI .i64 ((l_17l : Nat) : Int) (mulI .i64 2 x21)).toNat * 5)).add 0) (.bool b24) <|
   Chk1 ((a23.add ((addI .i64 ((l_17l : Nat) : Int) (mulI .i64 2 x21)).toNat * 5)).add 1) (.int .i64 x25) <|
   Chk1 ((a23.add ((addI .i64 ((l_17l : Nat) : Int) (mulI .i64 2 x21)).toNat * 5)).add 2) (.int .i64 x26) <|
   Chk1 ((a23.add ((addI .i64 ((l_17l : Nat) : Int) (mulI .i64 2 x21)).toNat * 5)).add 3) (.int .i64 x27) <|
   Chk1 ((a23.add ((addI .i64 ((l_17l : Nat) : Int) (mulI .i64 2 x21)).toNat * 5)).add 4) (.bool b28) <|
   Store1 ⟨n57, 0, none⟩ (.bool b24) <|
   Store1 ⟨n57, 1, none⟩ (.int .i64 x25) <|
   Store1 ⟨n57, 2, none⟩ (.int .i64 x26) <|
   Store1 ⟨n57, 3, none⟩ (.int .i64 x27) <|
   Store1 ⟨n57, 4, none⟩ (.bool b28) <|
   Chk1 ((a29.add ((addI .i64 (addI .i64 ((l_17l : Nat) : Int) (mulI .i64 2 x21)) 1).toNat * 5)).add 0) (.bool b30) <|
   Chk1 ((a29.add ((addI .i64 (addI .i64 ((l_17l : Nat) : Int) (mulI .i64 2 x21)) 1).toNat * 5)).add 1) (.int .i64 x31) <|
   Chk1 ((a29.add ((addI .i64 (addI .i64 ((l_17l : Nat) : Int) (mulI .i64 2 x21)) 1).toNat * 5)).add 2) (.int .i64 x32) <|
   Chk1 ((a29.add ((addI .i64 (addI .i64 ((l_17l : Nat) : Int) (mulI .i64 2 x21)) 1).toNat * 5)).add 3) (.int .i64 x33) <|
   Chk1 ((a29.add ((addI .i64 (addI .i64 ((l_17l : Nat) : Int) (mulI .i64 2 x21)) 1).toNat * 5)).add 4) (.bool b34) <|
   Store1 ⟨n56, 0, none⟩ (.bool b30) <|
   Store1 ⟨n56, 1, none⟩ (.int .i64 x31) <|
   Store1 ⟨n56, 2, none⟩ (.int .i64 x32) <|
   Store1 ⟨n56, 3, none⟩ (.int .i64 x33) <|
   Store1 ⟨n56, 4, none⟩ (.bool b34) <|
   F3_J1 k again22 l_17p l_17l l_17c a_18p a_18l a_18c said_19p said_19l said_19c x21 ⟨n57, 0, none⟩ ⟨n56, 0, none⟩ x20 x21)) (
  k (.bool true))
theorem F3_L2_rule {k : Value → W} (I : Option Addr → Nat → Nat → Option Addr → Nat → Nat → Option Addr → Nat → Nat → Int → Int → W) (μ : Option Addr → Nat → Nat → Option Addr → Nat → Nat → Option Addr → Nat → Nat → Int → Int → World → Nat)
  (hr : ∀ (l_17p : Option Addr) (l_17l : Nat) (l_17c : Nat) (a_18p : Option Addr) (a_18l : Nat) (a_18c : Nat) (said_19p : Option Addr) (said_19l : Nat) (said_19c : Nat) (x20 : Int) (x21 : Int) (w : World), I l_17p l_17l l_17c a_18p a_18l a_18c said_19p said_19l said_19c x20 x21 w → F3_L2 k (fun l_17p' l_17l' l_17c' a_18p' a_18l' a_18c' said_19p' said_19l' said_19c' x20' x21' w' => I l_17p' l_17l' l_17c' a_18p' a_18l' a_18c' said_19p' said_19l' said_19c' x20' x21' w' ∧ μ l_17p' l_17l' l_17c' a_18p' a_18l' a_18c' said_19p' said_19l' said_19c' x20' x21' w' < μ l_17p l_17l l_17c a_18p a_18l a_18c said_19p said_19l said_19c x20 x21 w) l_17p l_17l l_17c a_18p a_18l a_18c said_19p said_19l said_19c x20 x21 w)
  {w : World} {l_17p : Option Addr} {l_17l : Nat} {l_17c : Nat} {a_18p : Option Addr} {a_18l : Nat} {a_18c : Nat} {said_19p : Option Addr} {said_19l : Nat} {said_19c : Nat} {x20 : Int} {x21 : Int} (h : I l_17p l_17l l_17c a_18p a_18l a_18c said_19p said_19l said_19c x20 x21 w) : Loop [.slice, .slice, .slice, (.int .i64), (.int .i64)] (F3_L2 k) l_17p l_17l l_17c a_18p a_18l a_18c said_19p said_19l said_19c x20 x21 w :=
  Loop_intro (ts := [.slice, .slice, .slice, (.int .i64), (.int .i64)]) (s := ((l_17p, l_17l, l_17c), (a_18p, a_18l, a_18c), (said_19p, said_19l, said_19c), x20, x21, ())) (fun s w => I s.1.1 s.1.2.1 s.1.2.2 s.2.1.1 s.2.1.2.1 s.2.1.2.2 s.2.2.1.1 s.2.2.1.2.1 s.2.2.1.2.2 s.2.2.2.1 s.2.2.2.2.1 w) (fun s w => μ s.1.1 s.1.2.1 s.1.2.2 s.2.1.1 s.2.1.2.1 s.2.1.2.2 s.2.2.1.1 s.2.2.1.2.1 s.2.2.1.2.2 s.2.2.2.1 s.2.2.2.2.1 w) h (fun s w h => hr s.1.1 s.1.2.1 s.1.2.2 s.2.1.1 s.2.1.2.1 s.2.1.2.2 s.2.2.1.1 s.2.2.1.2.1 s.2.2.1.2.2 s.2.2.2.1 s.2.2.2.2.1 w h)
def F3_L1 (k : Value → W) (again13 : Option Addr → Nat → Nat → Option Addr → Nat → Nat → Bool → Option Addr → Nat → Nat → Int → Int → W) (l_7p : Option Addr) (l_7l : Nat) (l_7c : Nat) (a_8p : Option Addr) (a_8l : Nat) (a_8c : Nat) (is_9 : Bool) (steps_10p : Option Addr) (steps_10l : Nat) (steps_10c : Nat) (x11 : Int) (x12 : Int) : W :=
 BIf (decide (x12 < x11)) (
  RawT Go.Proofs.Try.prog (Instr.buildSlice 27 2 [(0, .agg #[.int .i64 2, .int .i64 0, .int .i64 0, .slice none 0 0]), (1, .agg #[.int .i64 3, .int .i64 0, .int .i64 0, .slice none 0 0])].toArray) (.s (.one .slice)) fun s14p s14l s14c =>
  NextT Go.Proofs.Try.prog (builtin .append #[27, 27] 27 [false, false].toArray [.slice steps_10p steps_10l steps_10c, .slice s14p s14l s14c].toArray) (.s (.one .slice)) fun s15p s15l s15c =>
  again13 l_7p l_7l l_7c a_8p a_8l a_8c is_9 s15p s15l s15c x11 (addI .i64 x12 1)) (
  CallT Go.Proofs.Try.prog 9 [.slice steps_10p steps_10l steps_10c] (.s (.one .slice)) fun s16p s16l s16c =>
  BIf (!is_9) (
   k (.bool false)) (
   BIf (((s16l : Nat) : Int) != ((steps_10l : Nat) : Int)) (
    k (.bool false)) (
    Loop [.slice, .slice, .slice, (.int .i64), (.int .i64)] (F3_L2 k) l_7p l_7l l_7c a_8p a_8l a_8c s16p s16l s16c ((l_7l : Nat) : Int) 0)))
theorem F3_L1_rule {k : Value → W} (I : Option Addr → Nat → Nat → Option Addr → Nat → Nat → Bool → Option Addr → Nat → Nat → Int → Int → W) (μ : Option Addr → Nat → Nat → Option Addr → Nat → Nat → Bool → Option Addr → Nat → Nat → Int → Int → World → Nat)
  (hr : ∀ (l_7p : Option Addr) (l_7l : Nat) (l_7c : Nat) (a_8p : Option Addr) (a_8l : Nat) (a_8c : Nat) (is_9 : Bool) (steps_10p : Option Addr) (steps_10l : Nat) (steps_10c : Nat) (x11 : Int) (x12 : Int) (w : World), I l_7p l_7l l_7c a_8p a_8l a_8c is_9 steps_10p steps_10l steps_10c x11 x12 w → F3_L1 k (fun l_7p' l_7l' l_7c' a_8p' a_8l' a_8c' is_9' steps_10p' steps_10l' steps_10c' x11' x12' w' => I l_7p' l_7l' l_7c' a_8p' a_8l' a_8c' is_9' steps_10p' steps_10l' steps_10c' x11' x12' w' ∧ μ l_7p' l_7l' l_7c' a_8p' a_8l' a_8c' is_9' steps_10p' steps_10l' steps_10c' x11' x12' w' < μ l_7p l_7l l_7c a_8p a_8l a_8c is_9 steps_10p steps_10l steps_10c x11 x12 w) l_7p l_7l l_7c a_8p a_8l a_8c is_9 steps_10p steps_10l steps_10c x11 x12 w)
  {w : World} {l_7p : Option Addr} {l_7l : Nat} {l_7c : Nat} {a_8p : Option Addr} {a_8l : Nat} {a_8c : Nat} {is_9 : Bool} {steps_10p : Option Addr} {steps_10l : Nat} {steps_10c : Nat} {x11 : Int} {x12 : Int} (h : I l_7p l_7l l_7c a_8p a_8l a_8c is_9 steps_10p steps_10l steps_10c x11 x12 w) : Loop [.slice, .slice, .bool, .slice, (.int .i64), (.int .i64)] (F3_L1 k) l_7p l_7l l_7c a_8p a_8l a_8c is_9 steps_10p steps_10l steps_10c x11 x12 w :=
  Loop_intro (ts := [.slice, .slice, .bool, .slice, (.int .i64), (.int .i64)]) (s := ((l_7p, l_7l, l_7c), (a_8p, a_8l, a_8c), is_9, (steps_10p, steps_10l, steps_10c), x11, x12, ())) (fun s w => I s.1.1 s.1.2.1 s.1.2.2 s.2.1.1 s.2.1.2.1 s.2.1.2.2 s.2.2.1 s.2.2.2.1.1 s.2.2.2.1.2.1 s.2.2.2.1.2.2 s.2.2.2.2.1 s.2.2.2.2.2.1 w) (fun s w => μ s.1.1 s.1.2.1 s.1.2.2 s.2.1.1 s.2.1.2.1 s.2.1.2.2 s.2.2.1 s.2.2.2.1.1 s.2.2.2.1.2.1 s.2.2.2.1.2.2 s.2.2.2.2.1 s.2.2.2.2.2.1 w) h (fun s w h => hr s.1.1 s.1.2.1 s.1.2.2 s.2.1.1 s.2.1.2.1 s.2.1.2.2 s.2.2.1 s.2.2.2.1.1 s.2.2.2.1.2.1 s.2.2.2.1.2.2 s.2.2.2.2.1 s.2.2.2.2.2.1 w h)
def F3 (k : Value → W) (l_1p : Option Addr) (l_1l : Nat) (l_1c : Nat) : W :=
 BIf (decide (((l_1l : Nat) : Int) > 2147483647)) (
  k (.bool true)) (
  CallT Go.Proofs.Try.prog 6 [.slice l_1p l_1l l_1c] (.s (.one .bool)) fun b2 =>
  BIf (!b2) (
   k (.bool true)) (
   CallT Go.Proofs.Try.prog 8 [.slice l_1p l_1l l_1c, .int .i64 0] (.s (.one .slice)) fun s3p s3l s3c =>
   CallT Go.Proofs.Try.prog 7 [.slice s3p s3l s3c, .int .i64 ((l_1l : Nat) : Int)] (.tup [(.one .slice), (.one .bool)]) fun s4p s4l s4c b5 =>
   CallT Go.Proofs.Try.prog 8 [.slice l_1p l_1l l_1c, .int .i64 0] (.s (.one .slice)) fun s6p s6l s6c =>
   Loop [.slice, .slice, .bool, .slice, (.int .i64), (.int .i64)] (F3_L1 k) l_1p l_1l l_1c s4p s4l s4c b5 s6p s6l s6c ((l_1l : Nat) : Int) 0))
theorem F3_eq (k : Value → W) (l_1p : Option Addr) (l_1l : Nat) (l_1c : Nat) : compF Go.Proofs.Try.prog Go.Proofs.Try.f3 [(8, [(0, .slice), (3, .slice), (4, .bool), (5, .slice), (27, (.int .i64)), (28, (.int .i64))]), (15, [(0, .slice), (3, .slice), (6, .slice), (48, (.int .i64)), (49, (.int .i64))])] (Go.Proofs.Try.f3.body.getD .skip) [.slice l_1p l_1l l_1c] k = F3 k l_1p l_1l l_1c := by kernel_rfl
theorem F3_calls {l_1p : Option Addr} {l_1l : Nat} {l_1c : Nat} {w : World} {R : Ending → World → Prop} (h : F3 (fun v w => R (.returned v) w) l_1p l_1l l_1c w) : Calls Go.Proofs.Try.prog 3 #[.slice l_1p l_1l l_1c] w R :=
  calls_of_compF noNum follows [(8, [(0, .slice), (3, .slice), (4, .bool), (5, .slice), (27, (.int .i64)), (28, (.int .i64))]), (15, [(0, .slice), (3, .slice), (6, .slice), (48, (.int .i64)), (49, (.int .i64))])] (f := 3) (fn := Go.Proofs.Try.f3) (body := Go.Proofs.Try.f3.body.getD .skip) (args := [.slice l_1p l_1l l_1c]) rfl rfl (Nat.le_of_ble_eq_true rfl) ((congrFun (F3_eq _ l_1p l_1l l_1c) w).mpr h)
theorem F3_call {l_1p : Option Addr} {l_1l : Nat} {l_1c : Nat} {w : World} {g : Fn W (RTy.leaves (.s (.one .bool)))} (h : F3 (fun v => Back (.s (.one .bool)) g (.returned v)) l_1p l_1l l_1c w) : CallT Go.Proofs.Try.prog 3 [.slice l_1p l_1l l_1c] (.s (.one .bool)) g w := F3_calls h

/-! ## laws.FnFHShift -/
def F4 (k : Value → W) (l_1p : Option Addr) (l_1l : Nat) (l_1c : Nat) (by_2 : Int) : W :=
 BIf (decide (((l_1l : Nat) : Int) > 2147483647)) (
  k (.bool true)) (
  CallT Go.Proofs.Try.prog 6 [.slice l_1p l_1l l_1c] (.s (.one .bool)) fun b3 =>
  BIf (!b3) (
   k (.bool true)) (
   CallT Go.Proofs.Try.prog 8 [.slice l_1p l_1l l_1c, .int .i64 0] (.s (.one .slice)) fun s4p s4l s4c =>
   CallT Go.Proofs.Try.prog 7 [.slice s4p s4l s4c, .int .i64 ((l_1l : Nat) : Int)] (.tup [(.one .slice), (.one .bool)]) fun s5p s5l s5c b6 =>
   CallT Go.Proofs.Try.prog 8 [.slice l_1p l_1l l_1c, .int .i64 (IntKind.wrap .i64 by_2)] (.s (.one .slice)) fun s7p s7l s7c =>
   CallT Go.Proofs.Try.prog 7 [.slice s7p s7l s7c, .int .i64 ((l_1l : Nat) : Int)] (.tup [(.one .slice), (.one .bool)]) fun s8p s8l s8c b9 =>
   BIf b6 (
    BIf b9 (
     CallT Go.Proofs.Try.prog 11 [.slice s5p s5l s5c, .int .i64 (IntKind.wrap .i64 by_2)] (.s (.one .slice)) fun s10p s10l s10c =>
     CallT Go.Proofs.Try.prog 10 [.slice s10p s10l s10c, .slice s8p s8l s8c] (.s (.one .bool)) fun b11 =>
     k (.bool b11)) (
     k (.bool false))) (
    k (.bool false))))
theorem F4_eq (k : Value → W) (l_1p : Option Addr) (l_1l : Nat) (l_1c : Nat) (by_2 : Int) : compF Go.Proofs.Try.prog Go.Proofs.Try.f4 [] (Go.Proofs.Try.f4.body.getD .skip) [.slice l_1p l_1l l_1c, .int .i16 by_2] k = F4 k l_1p l_1l l_1c by_2 := by kernel_rfl
theorem F4_calls {l_1p : Option Addr} {l_1l : Nat} {l_1c : Nat} {by_2 : Int} {w : World} {R : Ending → World → Prop} (h : F4 (fun v w => R (.returned v) w) l_1p l_1l l_1c by_2 w) : Calls Go.Proofs.Try.prog 4 #[.slice l_1p l_1l l_1c, .int .i16 by_2] w R :=
  calls_of_compF noNum follows [] (f := 4) (fn := Go.Proofs.Try.f4) (body := Go.Proofs.Try.f4.body.getD .skip) (args := [.slice l_1p l_1l l_1c, .int .i16 by_2]) rfl rfl (Nat.le_of_ble_eq_true rfl) ((congrFun (F4_eq _ l_1p l_1l l_1c by_2) w).mpr h)
theorem F4_call {l_1p : Option Addr} {l_1l : Nat} {l_1c : Nat} {by_2 : Int} {w : World} {g : Fn W (RTy.leaves (.s (.one .bool)))} (h : F4 (fun v => Back (.s (.one .bool)) g (.returned v)) l_1p l_1l l_1c by_2 w) : CallT Go.Proofs.Try.prog 4 [.slice l_1p l_1l l_1c, .int .i16 by_2] (.s (.one .bool)) g w := F4_calls h

/-! ## laws.FnFHSteps -/
def F5_L2 (k : Value → W) (again27 : Option Addr → Nat → Nat → Addr → Int → Option Addr → Nat → Nat → Int → Int → W) (l_21p : Option Addr) (l_21l : Nat) (l_21c : Nat) (by_22 : Addr) (k_23 : Int) (begin_24p : Option Addr) (begin_24l : Nat) (begin_24c : Nat) (x25 : Int) (x26 : Int) : W :=
 BIf (decide (x26 < x25)) (
  RawT Go.Proofs.Try.prog (Instr.buildSlice 27 1 [(0, .agg #[.int .i64 3, .int .i64 0, .int .i64 0, .slice none 0 0])].toArray) (.s (.one .slice)) fun s28p s28l s28c =>
  NextT Go.Proofs.Try.prog (builtin .append #[27, 27] 27 [false, false].toArray [.slice begin_24p begin_24l begin_24c, .slice s28p s28l s28c].toArray) (.s (.one .slice)) fun s29p s29l s29c =>
  again27 l_21p l_21l l_21c by_22 k_23 s29p s29l s29c x25 (addI .i64 x26 1)) (
  Drw <|
  NN l_21p fun a30 =>
  Req (0 ≤ k_23 ∧ k_23 < ((l_21l : Nat) : Int)) <|
  LoadT (.int .i16) (a30.add k_23.toNat) fun x31 =>
  Req (0 ≤ (0 : Int) ∧ (0 : Int) < (2 : Int)) <|
  LoadT (.int .u8) (by_22.add ((0 : Int).toNat)) fun x32 =>
  NN l_21p fun a33 =>
  Req (0 ≤ k_23 ∧ k_23 < ((l_21l : Nat) : Int)) <|
  LoadT (.int .i16) (a33.add k_23.toNat) fun x34 =>
  Req (0 ≤ (0 : Int) ∧ (0 : Int) < (2 : Int)) <|
  LoadT (.int .u8) (by_22.add ((0 : Int).toNat)) fun x35 =>
  Req (0 ≤ (1 : Int) ∧ (1 : Int) < (2 : Int)) <|
  LoadT (.int .u8) (by_22.add ((1 : Int).toNat)) fun x36 =>
  Bind (subI .i64 (subI .i64 (IntKind.wrap .i64 x31) 1) (IntKind.wrap .i64 x32) : Int) fun x_37 =>
  Bind (subI .i64 (subI .i64 (subI .i64 (IntKind.wrap .i64 x34) 2) (IntKind.wrap .i64 x35)) (IntKind.wrap .i64 x36) : Int) fun y_38 =>
  CallT Go.Proofs.Try.prog 12 [.slice begin_24p begin_24l begin_24c] (.s (.one .slice)) fun s39p s39l s39c =>
  RawT Go.Proofs.Try.prog (Instr.buildSlice 27 1 [(0, .agg #[.int .i64 4, .int .i64 k_23, .int .i64 y_38, .slice none 0 0])].toArray) (.s (.one .slice)) fun s40p s40l s40c =>
  NextT Go.Proofs.Try.prog (builtin .append #[27, 27] 27 [false, false].toArray [.slice s39p s39l s39c, .slice s40p s40l s40c].toArray) (.s (.one .slice)) fun s41p s41l s41c =>
  CallT Go.Proofs.Try.prog 7 [.slice s41p s41l s41c, .int .i64 ((l_21l : Nat) : Int)] (.tup [(.one .slice), (.one .bool)]) fun s42p s42l s42c b43 =>
  CallT Go.Proofs.Try.prog 12 [.slice begin_24p begin_24l begin_24c] (.s (.one .slice)) fun s44p s44l s44c =>
  RawT Go.Proofs.Try.prog (Instr.buildSlice 27 2 [(0, .agg #[.int .i64 4, .int .i64 k_23, .int .i64 x_37, .slice none 0 0]), (1, .agg #[.int .i64 4, .int .i64 k_23, .int .i64 y_38, .slice none 0 0])].toArray) (.s (.one .slice)) fun s45p s45l s45c =>
  NextT Go.Proofs.Try.prog (builtin .append #[27, 27] 27 [false, false].toArray [.slice s44p s44l s44c, .slice s45p s45l s45c].toArray) (.s (.one .slice)) fun s46p s46l s46c =>
  CallT Go.Proofs.Try.prog 7 [.slice s46p s46l s46c, .int .i64 ((l_21l : Nat) : Int)] (.tup [(.one .slice), (.one .bool)]) fun s47p s47l s47c b48 =>
  BIf b43 (
   BIf b48 (
    CallT Go.Proofs.Try.prog 10 [.slice s42p s42l s42c, .slice s47p s47l s47c] (.s (.one .bool)) fun b49 =>
    k (.bool b49)) (
    k (.bool false))) (
   k (.bool false)))
theorem F5_L2_rule {k : Value → W} (I : Option Addr → Nat → Nat → Addr → Int → Option Addr → Nat → Nat → Int → Int → W) (μ : Option Addr → Nat → Nat → Addr → Int → Option Addr → Nat → Nat → Int → Int → World → Nat)
  (hr : ∀ (l_21p : Option Addr) (l_21l : Nat) (l_21c : Nat) (by_22 : Addr) (k_23 : Int) (begin_24p : Option Addr) (begin_24l : Nat) (begin_24c : Nat) (x25 : Int) (x26 : Int) (w : World), I l_21p l_21l l_21c by_22 k_23 begin_24p begin_24l begin_24c x25 x26 w → F5_L2 k (fun l_21p' l_21l' l_21c' by_22' k_23' begin_24p' begin_24l' begin_24c' x25' x26' w' => I l_21p' l_21l' l_21c' by_22' k_23' begin_24p' begin_24l' begin_24c' x25' x26' w' ∧ μ l_21p' l_21l' l_21c' by_22' k_23' begin_24p' begin_24l' begin_24c' x25' x26' w' < μ l_21p l_21l l_21c by_22 k_23 begin_24p begin_24l begin_24c x25 x26 w) l_21p l_21l l_21c by_22 k_23 begin_24p begin_24l begin_24c x25 x26 w)
  {w : World} {l_21p : Option Addr} {l_21l : Nat} {l_21c : Nat} {by_22 : Addr} {k_23 : Int} {begin_24p : Option Addr} {begin_24l : Nat} {begin_24c : Nat} {x25 : Int} {x26 : Int} (h : I l_21p l_21l l_21c by_22 k_23 begin_24p begin_24l begin_24c x25 x26 w) : Loop [.slice, .addr, (.int .i64), .slice, (.int .i64), (.int .i64)] (F5_L2 k) l_21p l_21l l_21c by_22 k_23 begin_24p begin_24l begin_24c x25 x26 w :=
  Loop_intro (ts := [.slice, .addr, (.int .i64), .slice, (.int .i64), (.int .i64)]) (s := ((l_21p, l_21l, l_21c), by_22, k_23, (begin_24p, begin_24l, begin_24c), x25, x26, ())) (fun s w => I s.1.1 s.1.2.1 s.1.2.2 s.2.1 s.2.2.1 s.2.2.2.1.1 s.2.2.2.1.2.1 s.2.2.2.1.2.2 s.2.2.2.2.1 s.2.2.2.2.2.1 w) (fun s w => μ s.1.1 s.1.2.1 s.1.2.2 s.2.1 s.2.2.1 s.2.2.2.1.1 s.2.2.2.1.2.1 s.2.2.2.1.2.2 s.2.2.2.2.1 s.2.2.2.2.2.1 w) h (fun s w h => hr s.1.1 s.1.2.1 s.1.2.2 s.2.1 s.2.2.1 s.2.2.2.1.1 s.2.2.2.1.2.1 s.2.2.2.1.2.2 s.2.2.2.2.1 s.2.2.2.2.2.1 w h)
def F5_L1 (k : Value → W) (again18 : Option Addr → Nat → Nat → Addr → Int → Int → Option Addr → Nat → Nat → Int → Int → W) (l_11p : Option Addr) (l_11l : Nat) (l_11c : Nat) (by_12 : Addr) (k_13 : Int) (n_14 : Int) (begin_15p : Option Addr) (begin_15l : Nat) (begin_15c : Nat) (x16 : Int) (x17 : Int) : W :=
 BIf (decide (x17 < x16)) (
  RawT Go.Proofs.Try.prog (Instr.buildSlice 27 1 [(0, .agg #[.int .i64 1, .int .i64 0, .int .i64 (-262144), .slice none 0 0])].toArray) (.s (.one .slice)) fun s19p s19l s19c =>
  NextT Go.Proofs.Try.prog (builtin .append #[27, 27] 27 [false, false].toArray [.slice begin_15p begin_15l begin_15c, .slice s19p s19l s19c].toArray) (.s (.one .slice)) fun s20p s20l s20c =>
  again18 l_11p l_11l l_11c by_12 k_13 n_14 s20p s20l s20c x16 (addI .i64 x17 1)) (
  Loop [.slice, .addr, (.int .i64), .slice, (.int .i64), (.int .i64)] (F5_L2 k) l_11p l_11l l_11c by_12 k_13 begin_15p begin_15l begin_15c n_14 0)
theorem F5_L1_rule {k : Value → W} (I : Option Addr → Nat → Nat → Addr → Int → Int → Option Addr → Nat → Nat → Int → Int → W) (μ : Option Addr → Nat → Nat → Addr → Int → Int → Option Addr → Nat → Nat → Int → Int → World → Nat)
  (hr : ∀ (l_11p : Option Addr) (l_11l : Nat) (l_11c : Nat) (by_12 : Addr) (k_13 : Int) (n_14 : Int) (begin_15p : Option Addr) (begin_15l : Nat) (begin_15c : Nat) (x16 : Int) (x17 : Int) (w : World), I l_11p l_11l l_11c by_12 k_13 n_14 begin_15p begin_15l begin_15c x16 x17 w → F5_L1 k (fun l_11p' l_11l' l_11c' by_12' k_13' n_14' begin_15p' begin_15l' begin_15c' x16' x17' w' => I l_11p' l_11l' l_11c' by_12' k_13' n_14' begin_15p' begin_15l' begin_15c' x16' x17' w' ∧ μ l_11p' l_11l' l_11c' by_12' k_13' n_14' begin_15p' begin_15l' begin_15c' x16' x17' w' < μ l_11p l_11l l_11c by_12 k_13 n_14 begin_15p begin_15l begin_15c x16 x17 w) l_11p l_11l l_11c by_12 k_13 n_14 begin_15p begin_15l begin_15c x16 x17 w)
  {w : World} {l_11p : Option Addr} {l_11l : Nat} {l_11c : Nat} {by_12 : Addr} {k_13 : Int} {n_14 : Int} {begin_15p : Option Addr} {begin_15l : Nat} {begin_15c : Nat} {x16 : Int} {x17 : Int} (h : I l_11p l_11l l_11c by_12 k_13 n_14 begin_15p begin_15l begin_15c x16 x17 w) : Loop [.slice, .addr, (.int .i64), (.int .i64), .slice, (.int .i64), (.int .i64)] (F5_L1 k) l_11p l_11l l_11c by_12 k_13 n_14 begin_15p begin_15l begin_15c x16 x17 w :=
  Loop_intro (ts := [.slice, .addr, (.int .i64), (.int .i64), .slice, (.int .i64), (.int .i64)]) (s := ((l_11p, l_11l, l_11c), by_12, k_13, n_14, (begin_15p, begin_15l, begin_15c), x16, x17, ())) (fun s w => I s.1.1 s.1.2.1 s.1.2.2 s.2.1 s.2.2.1 s.2.2.2.1 s.2.2.2.2.1.1 s.2.2.2.2.1.2.1 s.2.2.2.2.1.2.2 s.2.2.2.2.2.1 s.2.2.2.2.2.2.1 w) (fun s w => μ s.1.1 s.1.2.1 s.1.2.2 s.2.1 s.2.2.1 s.2.2.2.1 s.2.2.2.2.1.1 s.2.2.2.2.1.2.1 s.2.2.2.2.1.2.2 s.2.2.2.2.2.1 s.2.2.2.2.2.2.1 w) h (fun s w h => hr s.1.1 s.1.2.1 s.1.2.2 s.2.1 s.2.2.1 s.2.2.2.1 s.2.2.2.2.1.1 s.2.2.2.2.1.2.1 s.2.2.2.2.1.2.2 s.2.2.2.2.2.1 s.2.2.2.2.2.2.1 w h)
def F5 (k : Value → W) (l_1p : Option Addr) (l_1l : Nat) (l_1c : Nat) (which_2 : Int) (x3 : Int) (x4 : Int) (first_5 : Int) : W :=
 New [.int .u8 x3, .int .u8 x4] 39 fun n6 =>
 BIf (decide (((l_1l : Nat) : Int) > 2147483647)) (
  k (.bool true)) (
  CallT Go.Proofs.Try.prog 6 [.slice l_1p l_1l l_1c] (.s (.one .bool)) fun b7 =>
  BIf (!b7) (
   k (.bool true)) (
   Req (((l_1l : Nat) : Int) ≠ (0 : Int)) <|
   Req (6 ≠ (0 : Int)) <|
   Bind (remI (IntKind.wrap .i64 which_2) ((l_1l : Nat) : Int) : Int) fun k_8 =>
   Bind (addI .i64 1 (remI (IntKind.wrap .i64 first_5) 6) : Int) fun n_9 =>
   CallT Go.Proofs.Try.prog 8 [.slice l_1p l_1l l_1c, .int .i64 0] (.s (.one .slice)) fun s10p s10l s10c =>
   Loop [.slice, .addr, (.int .i64), (.int .i64), .slice, (.int .i64), (.int .i64)] (F5_L1 k) l_1p l_1l l_1c ⟨n6, 0, none⟩ k_8 n_9 s10p s10l s10c n_9 0))
theorem F5_eq (k : Value → W) (l_1p : Option Addr) (l_1l : Nat) (l_1c : Nat) (which_2 : Int) (x3 : Int) (x4 : Int) (first_5 : Int) : compF Go.Proofs.Try.prog Go.Proofs.Try.f5 [(8, [(0, .slice), (6, .addr), (9, (.int .i64)), (10, (.int .i64)), (11, .slice), (35, (.int .i64)), (36, (.int .i64))]), (12, [(0, .slice), (6, .addr), (9, (.int .i64)), (11, .slice), (43, (.int .i64)), (44, (.int .i64))])] (Go.Proofs.Try.f5.body.getD .skip) [.slice l_1p l_1l l_1c, .int .u8 which_2, .agg #[.int .u8 x3, .int .u8 x4], .int .u8 first_5] k = F5 k l_1p l_1l l_1c which_2 x3 x4 first_5 := by kernel_rfl
theorem F5_calls {l_1p : Option Addr} {l_1l : Nat} {l_1c : Nat} {which_2 : Int} {x3 : Int} {x4 : Int} {first_5 : Int} {w : World} {R : Ending → World → Prop} (h : F5 (fun v w => R (.returned v) w) l_1p l_1l l_1c which_2 x3 x4 first_5 w) : Calls Go.Proofs.Try.prog 5 #[.slice l_1p l_1l l_1c, .int .u8 which_2, .agg #[.int .u8 x3, .int .u8 x4], .int .u8 first_5] w R :=
  calls_of_compF noNum follows [(8, [(0, .slice), (6, .addr), (9, (.int .i64)), (10, (.int .i64)), (11, .slice), (35, (.int .i64)), (36, (.int .i64))]), (12, [(0, .slice), (6, .addr), (9, (.int .i64)), (11, .slice), (43, (.int .i64)), (44, (.int .i64))])] (f := 5) (fn := Go.Proofs.Try.f5) (body := Go.Proofs.Try.f5.body.getD .skip) (args := [.slice l_1p l_1l l_1c, .int .u8 which_2, .agg #[.int .u8 x3, .int .u8 x4], .int .u8 first_5]) rfl rfl (Nat.le_of_ble_eq_true rfl) ((congrFun (F5_eq _ l_1p l_1l l_1c which_2 x3 x4 first_5) w).mpr h)
theorem F5_call {l_1p : Option Addr} {l_1l : Nat} {l_1c : Nat} {which_2 : Int} {x3 : Int} {x4 : Int} {first_5 : Int} {w : World} {g : Fn W (RTy.leaves (.s (.one .bool)))} (h : F5 (fun v => Back (.s (.one .bool)) g (.returned v)) l_1p l_1l l_1c which_2 x3 x4 first_5 w) : CallT Go.Proofs.Try.prog 5 [.slice l_1p l_1l l_1c, .int .u8 which_2, .agg #[.int .u8 x3, .int .u8 x4], .int .u8 first_5] (.s (.one .bool)) g w := F5_calls h

end Go.Proofs.Ytlbeelgfpbkdbaa.E
