/-
  Printed by this session's own program eng.py out of Lean's print of the loaded functions: what each function's body asks, in the engine's words; each is checked against the program by the kernel.
-/
import Derived.Test.YtopdlfecfgimpaaEng
import Derived.Test.YtopdlfecfgimpaaFnsA
namespace Go.Proofs.Ytopdlfecfgimpaa.E
open Go
set_option linter.unusedVariables false
set_option maxRecDepth 100000
/-! ## bits.OnesCount64 -/
def F93 (k : Value → W) (x_1 : Int) : W :=
 Bind (addI .u64 (andI .u64 (shrI .u64 x_1 1) 6148914691236517205) (andI .u64 x_1 6148914691236517205) : Int) fun x_2 =>
 Bind (addI .u64 (andI .u64 (shrI .u64 x_2 2) 3689348814741910323) (andI .u64 x_2 3689348814741910323) : Int) fun x_3 =>
 Bind (andI .u64 (addI .u64 (shrI .u64 x_3 4) x_3) 1085102592571150095 : Int) fun x_4 =>
 Bind (addI .u64 x_4 (shrI .u64 x_4 8) : Int) fun x_5 =>
 Bind (addI .u64 x_5 (shrI .u64 x_5 16) : Int) fun x_6 =>
 Bind (addI .u64 x_6 (shrI .u64 x_6 32) : Int) fun x_7 =>
 Bind (andI .i64 (IntKind.wrap .i64 x_7) 127 : Int) fun y8 =>
 k (.int .i64 y8)
theorem F93_eq (k : Value → W) (x_1 : Int) : compF Go.Proofs.Try.prog Go.Proofs.Try.f93 [] (Go.Proofs.Try.f93.body.getD .skip) [.int .u64 x_1] k = F93 k x_1 := by kernel_rfl
theorem F93_calls {x_1 : Int} {w : World} {R : Ending → World → Prop} (h : F93 (fun v w => R (.returned v) w) x_1 w) : Calls Go.Proofs.Try.prog 93 #[.int .u64 x_1] w R :=
  calls_of_compF noNum follows [] (f := 93) (fn := Go.Proofs.Try.f93) (body := Go.Proofs.Try.f93.body.getD .skip) (args := [.int .u64 x_1]) rfl rfl (Nat.le_of_ble_eq_true rfl) ((congrFun (F93_eq _ x_1) w).mpr h)
theorem F93_call {x_1 : Int} {w : World} {g : Fn W (RTy.leaves (.s (.one (.int .i64))))} (h : F93 (fun v => Back (.s (.one (.int .i64))) g (.returned v)) x_1 w) : CallT Go.Proofs.Try.prog 93 [.int .u64 x_1] (.s (.one (.int .i64))) g w := F93_calls h

/-! ## bitset.BitSet).Rank -/
def F60_L1 (k : Value → W) (again17 : Option Addr → Int → Int → Int → Int → Int → W) (b_11 : Option Addr) (index_12 : Int) (rank_13 : Int) (length_14 : Int) (idx_15 : Int) (j_16 : Int) : W :=
 BIf (decide (j_16 < idx_15)) (
  NN b_11 fun a18 =>
  LoadT .slice (a18.add 1) fun s19p s19l s19c =>
  NN s19p fun a20 =>
  Req (0 ≤ j_16 ∧ j_16 < (s19l : Int)) <|
  LoadT (.int .u64) (a20.add j_16.toNat) fun x21 =>
  BIf (x21 != 0) (
   CallT Go.Proofs.Try.prog 93 [.int .u64 x21] (.s (.one (.int .i64))) fun x22 =>
   Bind (addI .u64 rank_13 (IntKind.wrap .u64 x22) : Int) fun rank_23 =>
   again17 b_11 index_12 rank_23 length_14 idx_15 (addI .i64 j_16 1)) (
   again17 b_11 index_12 rank_13 length_14 idx_15 (addI .i64 j_16 1))) (
  BIf (decide (idx_15 < length_14)) (
   NN b_11 fun a24 =>
   LoadT .slice (a24.add 1) fun s25p s25l s25c =>
   NN s25p fun a26 =>
   Req (0 ≤ idx_15 ∧ idx_15 < (s25l : Int)) <|
   LoadT (.int .u64) (a26.add idx_15.toNat) fun x27 =>
   Req (0 ≤ subI .u64 63 (andI .u64 index_12 63)) <|
   CallT Go.Proofs.Try.prog 93 [.int .u64 (shlI .u64 x27 (subI .u64 63 (andI .u64 index_12 63)).toNat)] (.s (.one (.int .i64))) fun x28 =>
   Bind (addI .u64 rank_13 (IntKind.wrap .u64 x28) : Int) fun rank_29 =>
   k (.int .u64 rank_29)) (
   k (.int .u64 rank_13)))
theorem F60_L1_rule {k : Value → W} (I : Option Addr → Int → Int → Int → Int → Int → W) (μ : Option Addr → Int → Int → Int → Int → Int → World → Nat)
  (hr : ∀ (b_11 : Option Addr) (index_12 : Int) (rank_13 : Int) (length_14 : Int) (idx_15 : Int) (j_16 : Int) (w : World), I b_11 index_12 rank_13 length_14 idx_15 j_16 w → F60_L1 k (fun b_11' index_12' rank_13' length_14' idx_15' j_16' w' => I b_11' index_12' rank_13' length_14' idx_15' j_16' w' ∧ μ b_11' index_12' rank_13' length_14' idx_15' j_16' w' < μ b_11 index_12 rank_13 length_14 idx_15 j_16 w) b_11 index_12 rank_13 length_14 idx_15 j_16 w)
  {w : World} {b_11 : Option Addr} {index_12 : Int} {rank_13 : Int} {length_14 : Int} {idx_15 : Int} {j_16 : Int} (h : I b_11 index_12 rank_13 length_14 idx_15 j_16 w) : Loop [.ptr, (.int .u64), (.int .u64), (.int .i64), (.int .i64), (.int .i64)] (F60_L1 k) b_11 index_12 rank_13 length_14 idx_15 j_16 w :=
  Loop_intro (ts := [.ptr, (.int .u64), (.int .u64), (.int .i64), (.int .i64), (.int .i64)]) (s := (b_11, index_12, rank_13, length_14, idx_15, j_16, ())) (fun s w => I s.1 s.2.1 s.2.2.1 s.2.2.2.1 s.2.2.2.2.1 s.2.2.2.2.2.1 w) (fun s w => μ s.1 s.2.1 s.2.2.1 s.2.2.2.1 s.2.2.2.2.1 s.2.2.2.2.2.1 w) h (fun s w h => hr s.1 s.2.1 s.2.2.1 s.2.2.2.1 s.2.2.2.2.1 s.2.2.2.2.2.1 w h)
def F60_J1 (k : Value → W) (b_6 : Option Addr) (index_7 : Int) (rank_8 : Int) (length_9 : Int) (idx_10 : Int) : W :=
 Loop [.ptr, (.int .u64), (.int .u64), (.int .i64), (.int .i64), (.int .i64)] (F60_L1 k) b_6 index_7 rank_8 length_9 idx_10 0
def F60 (k : Value → W) (b_1 : Option Addr) (index_2 : Int) : W :=
 NN b_1 fun a3 =>
 LoadT .slice (a3.add 1) fun s4p s4l s4c =>
 Bind (IntKind.wrap .i64 (shrI .u64 index_2 6) : Int) fun idx_5 =>
 BIf (decide (idx_5 > ((s4l : Nat) : Int))) (
  F60_J1 k b_1 index_2 0 ((s4l : Nat) : Int) ((s4l : Nat) : Int)) (
  F60_J1 k b_1 index_2 0 ((s4l : Nat) : Int) idx_5)
theorem F60_eq (k : Value → W) (b_1 : Option Addr) (index_2 : Int) : compF Go.Proofs.Try.prog Go.Proofs.Try.f60 [(6, [(0, .ptr), (1, (.int .u64)), (4, (.int .u64)), (5, (.int .i64)), (6, (.int .i64)), (7, (.int .i64))])] (Go.Proofs.Try.f60.body.getD .skip) [.pointer b_1, .int .u64 index_2] k = F60 k b_1 index_2 := by kernel_rfl
theorem F60_calls {b_1 : Option Addr} {index_2 : Int} {w : World} {R : Ending → World → Prop} (h : F60 (fun v w => R (.returned v) w) b_1 index_2 w) : Calls Go.Proofs.Try.prog 60 #[.pointer b_1, .int .u64 index_2] w R :=
  calls_of_compF noNum follows [(6, [(0, .ptr), (1, (.int .u64)), (4, (.int .u64)), (5, (.int .i64)), (6, (.int .i64)), (7, (.int .i64))])] (f := 60) (fn := Go.Proofs.Try.f60) (body := Go.Proofs.Try.f60.body.getD .skip) (args := [.pointer b_1, .int .u64 index_2]) rfl rfl (Nat.le_of_ble_eq_true rfl) ((congrFun (F60_eq _ b_1 index_2) w).mpr h)
theorem F60_call {b_1 : Option Addr} {index_2 : Int} {w : World} {g : Fn W (RTy.leaves (.s (.one (.int .u64))))} (h : F60 (fun v => Back (.s (.one (.int .u64))) g (.returned v)) b_1 index_2 w) : CallT Go.Proofs.Try.prog 60 [.pointer b_1, .int .u64 index_2] (.s (.one (.int .u64))) g w := F60_calls h

/-! ## impl.BSRank -/
def F23 (k : Value → W) (x1 : Int) (s2p : Option Addr) (s2l : Nat) (s2c : Nat) (i_3 : Int) : W :=
 New [.int .u64 x1, .slice s2p s2l s2c] 25 fun n4 =>
 LoadT (.int .u64) ⟨n4, 0, none⟩ fun x5 =>
 LoadT .slice ⟨n4, 1, none⟩ fun s6p s6l s6c =>
 CallT Go.Proofs.Try.prog 49 [.agg #[.int .u64 x5, .slice s6p s6l s6c]] (.s (.one .ptr)) fun p7 =>
 CallT Go.Proofs.Try.prog 60 [.pointer p7, .int .u64 i_3] (.s (.one (.int .u64))) fun x8 =>
 k (.int .u64 x8)
theorem F23_eq (k : Value → W) (x1 : Int) (s2p : Option Addr) (s2l : Nat) (s2c : Nat) (i_3 : Int) : compF Go.Proofs.Try.prog Go.Proofs.Try.f23 [] (Go.Proofs.Try.f23.body.getD .skip) [.agg #[.int .u64 x1, .slice s2p s2l s2c], .int .u64 i_3] k = F23 k x1 s2p s2l s2c i_3 := by kernel_rfl
theorem F23_calls {x1 : Int} {s2p : Option Addr} {s2l : Nat} {s2c : Nat} {i_3 : Int} {w : World} {R : Ending → World → Prop} (h : F23 (fun v w => R (.returned v) w) x1 s2p s2l s2c i_3 w) : Calls Go.Proofs.Try.prog 23 #[.agg #[.int .u64 x1, .slice s2p s2l s2c], .int .u64 i_3] w R :=
  calls_of_compF noNum follows [] (f := 23) (fn := Go.Proofs.Try.f23) (body := Go.Proofs.Try.f23.body.getD .skip) (args := [.agg #[.int .u64 x1, .slice s2p s2l s2c], .int .u64 i_3]) rfl rfl (Nat.le_of_ble_eq_true rfl) ((congrFun (F23_eq _ x1 s2p s2l s2c i_3) w).mpr h)
theorem F23_call {x1 : Int} {s2p : Option Addr} {s2l : Nat} {s2c : Nat} {i_3 : Int} {w : World} {g : Fn W (RTy.leaves (.s (.one (.int .u64))))} (h : F23 (fun v => Back (.s (.one (.int .u64))) g (.returned v)) x1 s2p s2l s2c i_3 w) : CallT Go.Proofs.Try.prog 23 [.agg #[.int .u64 x1, .slice s2p s2l s2c], .int .u64 i_3] (.s (.one (.int .u64))) g w := F23_calls h

/-! ## bitset.BitSet).Complement -/
def F61_L1 (k : Value → W) (again11 : Option Addr → Option Addr → Nat → Nat → Int → Int → W) (result_7 : Option Addr) (s8p : Option Addr) (s8l : Nat) (s8c : Nat) (x9 : Int) (x10 : Int) : W :=
 BIf (decide (x10 < x9)) (
  NN s8p fun a12 =>
  Req (0 ≤ x10 ∧ x10 < (s8l : Int)) <|
  LoadT (.int .u64) (a12.add x10.toNat) fun x13 =>
  NN result_7 fun a14 =>
  LoadT .slice (a14.add 1) fun s15p s15l s15c =>
  NN s15p fun a16 =>
  Req (0 ≤ x10 ∧ x10 < (s15l : Int)) <|
  Store1 (a16.add x10.toNat) (.int .u64 (xorI .u64 (IntKind.max .u64) x13)) <|
  again11 result_7 s8p s8l s8c x9 (addI .i64 x10 1)) (
  CallT Go.Proofs.Try.prog 88 [.pointer result_7] (.tup []) <|
  k (.pointer result_7))
theorem F61_L1_rule {k : Value → W} (I : Option Addr → Option Addr → Nat → Nat → Int → Int → W) (μ : Option Addr → Option Addr → Nat → Nat → Int → Int → World → Nat)
  (hr : ∀ (result_7 : Option Addr) (s8p : Option Addr) (s8l : Nat) (s8c : Nat) (x9 : Int) (x10 : Int) (w : World), I result_7 s8p s8l s8c x9 x10 w → F61_L1 k (fun result_7' s8p' s8l' s8c' x9' x10' w' => I result_7' s8p' s8l' s8c' x9' x10' w' ∧ μ result_7' s8p' s8l' s8c' x9' x10' w' < μ result_7 s8p s8l s8c x9 x10 w) result_7 s8p s8l s8c x9 x10 w)
  {w : World} {result_7 : Option Addr} {s8p : Option Addr} {s8l : Nat} {s8c : Nat} {x9 : Int} {x10 : Int} (h : I result_7 s8p s8l s8c x9 x10 w) : Loop [.ptr, .slice, (.int .i64), (.int .i64)] (F61_L1 k) result_7 s8p s8l s8c x9 x10 w :=
  Loop_intro (ts := [.ptr, .slice, (.int .i64), (.int .i64)]) (s := (result_7, (s8p, s8l, s8c), x9, x10, ())) (fun s w => I s.1 s.2.1.1 s.2.1.2.1 s.2.1.2.2 s.2.2.1 s.2.2.2.1 w) (fun s w => μ s.1 s.2.1.1 s.2.1.2.1 s.2.1.2.2 s.2.2.1 s.2.2.2.1 w) h (fun s w h => hr s.1 s.2.1.1 s.2.1.2.1 s.2.1.2.2 s.2.2.1 s.2.2.2.1 w h)
def F61 (k : Value → W) (b_1 : Option Addr) : W :=
 CallT Go.Proofs.Try.prog 89 [.pointer b_1] (.tup []) <|
 NN b_1 fun a2 =>
 LoadT (.int .u64) a2 fun x3 =>
 CallT Go.Proofs.Try.prog 59 [.int .u64 x3] (.s (.one .ptr)) fun p4 =>
 NN b_1 fun a5 =>
 LoadT .slice (a5.add 1) fun s6p s6l s6c =>
 Loop [.ptr, .slice, (.int .i64), (.int .i64)] (F61_L1 k) p4 s6p s6l s6c ((s6l : Nat) : Int) 0
theorem F61_eq (k : Value → W) (b_1 : Option Addr) : compF Go.Proofs.Try.prog Go.Proofs.Try.f61 [(4, [(2, .ptr), (15, .slice), (16, (.int .i64)), (17, (.int .i64))])] (Go.Proofs.Try.f61.body.getD .skip) [.pointer b_1] k = F61 k b_1 := by kernel_rfl
theorem F61_calls {b_1 : Option Addr} {w : World} {R : Ending → World → Prop} (h : F61 (fun v w => R (.returned v) w) b_1 w) : Calls Go.Proofs.Try.prog 61 #[.pointer b_1] w R :=
  calls_of_compF noNum follows [(4, [(2, .ptr), (15, .slice), (16, (.int .i64)), (17, (.int .i64))])] (f := 61) (fn := Go.Proofs.Try.f61) (body := Go.Proofs.Try.f61.body.getD .skip) (args := [.pointer b_1]) rfl rfl (Nat.le_of_ble_eq_true rfl) ((congrFun (F61_eq _ b_1) w).mpr h)
theorem F61_call {b_1 : Option Addr} {w : World} {g : Fn W (RTy.leaves (.s (.one .ptr)))} (h : F61 (fun v => Back (.s (.one .ptr)) g (.returned v)) b_1 w) : CallT Go.Proofs.Try.prog 61 [.pointer b_1] (.s (.one .ptr)) g w := F61_calls h

/-! ## impl.BSComplement -/
def F24 (k : Value → W) (x1 : Int) (s2p : Option Addr) (s2l : Nat) (s2c : Nat) : W :=
 New [.int .u64 x1, .slice s2p s2l s2c] 25 fun n3 =>
 New [.int .u64 0, .slice none 0 0] 25 fun n4 =>
 LoadT (.int .u64) ⟨n3, 0, none⟩ fun x5 =>
 LoadT .slice ⟨n3, 1, none⟩ fun s6p s6l s6c =>
 CallT Go.Proofs.Try.prog 49 [.agg #[.int .u64 x5, .slice s6p s6l s6c]] (.s (.one .ptr)) fun p7 =>
 CallT Go.Proofs.Try.prog 61 [.pointer p7] (.s (.one .ptr)) fun p8 =>
 CallT Go.Proofs.Try.prog 51 [.pointer p8] (.s (.agg [(.int .u64), .slice])) fun x9 s10p s10l s10c =>
 Store1 ⟨n4, 0, none⟩ (.int .u64 x9) <|
 Store1 ⟨n4, 1, none⟩ (.slice s10p s10l s10c) <|
 LoadT (.int .u64) ⟨n4, 0, none⟩ fun x11 =>
 LoadT .slice ⟨n4, 1, none⟩ fun s12p s12l s12c =>
 k (.agg #[.int .u64 x11, .slice s12p s12l s12c])
theorem F24_eq (k : Value → W) (x1 : Int) (s2p : Option Addr) (s2l : Nat) (s2c : Nat) : compF Go.Proofs.Try.prog Go.Proofs.Try.f24 [] (Go.Proofs.Try.f24.body.getD .skip) [.agg #[.int .u64 x1, .slice s2p s2l s2c]] k = F24 k x1 s2p s2l s2c := by kernel_rfl
theorem F24_calls {x1 : Int} {s2p : Option Addr} {s2l : Nat} {s2c : Nat} {w : World} {R : Ending → World → Prop} (h : F24 (fun v w => R (.returned v) w) x1 s2p s2l s2c w) : Calls Go.Proofs.Try.prog 24 #[.agg #[.int .u64 x1, .slice s2p s2l s2c]] w R :=
  calls_of_compF noNum follows [] (f := 24) (fn := Go.Proofs.Try.f24) (body := Go.Proofs.Try.f24.body.getD .skip) (args := [.agg #[.int .u64 x1, .slice s2p s2l s2c]]) rfl rfl (Nat.le_of_ble_eq_true rfl) ((congrFun (F24_eq _ x1 s2p s2l s2c) w).mpr h)
theorem F24_call {x1 : Int} {s2p : Option Addr} {s2l : Nat} {s2c : Nat} {w : World} {g : Fn W (RTy.leaves (.s (.agg [(.int .u64), .slice])))} (h : F24 (fun v => Back (.s (.agg [(.int .u64), .slice])) g (.returned v)) x1 s2p s2l s2c w) : CallT Go.Proofs.Try.prog 24 [.agg #[.int .u64 x1, .slice s2p s2l s2c]] (.s (.agg [(.int .u64), .slice])) g w := F24_calls h

/-! ## laws.FnBSDeepRanks -/
def F5 (k : Value → W) (x1 : Int) (s2p : Option Addr) (s2l : Nat) (s2c : Nat) (at_3 : Int) : W :=
 New [.int .u64 x1, .slice s2p s2l s2c] 25 fun n4 =>
 LoadT (.int .u64) ⟨n4, 0, none⟩ fun x5 =>
 LoadT .slice ⟨n4, 1, none⟩ fun s6p s6l s6c =>
 CallT Go.Proofs.Try.prog 12 [.agg #[.int .u64 x5, .slice s6p s6l s6c]] (.s (.one .bool)) fun b7 =>
 BIf (!b7) (
  k (.bool true)) (
  Req (400 ≠ (0 : Int)) <|
  Bind (remI (IntKind.wrap .u64 at_3) 400 : Int) fun i_8 =>
  LoadT (.int .u64) ⟨n4, 0, none⟩ fun x9 =>
  LoadT .slice ⟨n4, 1, none⟩ fun s10p s10l s10c =>
  CallT Go.Proofs.Try.prog 13 [.agg #[.int .u64 x9, .slice s10p s10l s10c]] (.s (.agg [(.int .u64), .slice])) fun x11 s12p s12l s12c =>
  CallT Go.Proofs.Try.prog 17 [.agg #[.int .u64 x11, .slice s12p s12l s12c], .int .u64 i_8] (.s (.agg [(.int .u64), .slice])) fun x13 s14p s14l s14c =>
  New [.int .u64 0, .slice none 0 0] 25 fun n15 =>
  Store1 ⟨n15, 0, none⟩ (.int .u64 x13) <|
  Store1 ⟨n15, 1, none⟩ (.slice s14p s14l s14c) <|
  Drw <|
  LoadT (.int .u64) ⟨n15, 0, none⟩ fun x16 =>
  LoadT .slice ⟨n15, 1, none⟩ fun s17p s17l s17c =>
  LoadT (.int .u64) ⟨n15, 0, none⟩ fun x18 =>
  LoadT .slice ⟨n15, 1, none⟩ fun s19p s19l s19c =>
  CallT Go.Proofs.Try.prog 23 [.agg #[.int .u64 x16, .slice s17p s17l s17c], .int .u64 i_8] (.s (.one (.int .u64))) fun x20 =>
  Chk1 ⟨n15, 0, none⟩ (.int .u64 x18) <|
  Chk1 ⟨n15, 1, none⟩ (.slice s19p s19l s19c) <|
  CallT Go.Proofs.Try.prog 24 [.agg #[.int .u64 x18, .slice s19p s19l s19c]] (.s (.agg [(.int .u64), .slice])) fun x21 s22p s22l s22c =>
  Chk1 ⟨n15, 0, none⟩ (.int .u64 x16) <|
  Chk1 ⟨n15, 1, none⟩ (.slice s17p s17l s17c) <|
  CallT Go.Proofs.Try.prog 23 [.agg #[.int .u64 x21, .slice s22p s22l s22c], .int .u64 i_8] (.s (.one (.int .u64))) fun x23 =>
  Chk1 ⟨n15, 0, none⟩ (.int .u64 x18) <|
  Chk1 ⟨n15, 1, none⟩ (.slice s19p s19l s19c) <|
  Chk1 ⟨n15, 0, none⟩ (.int .u64 x16) <|
  Chk1 ⟨n15, 1, none⟩ (.slice s17p s17l s17c) <|
  BIf ((addI .u64 x20 x23) == (addI .u64 i_8 1)) (
   LoadT (.int .u64) ⟨n15, 0, none⟩ fun x24 =>
   LoadT .slice ⟨n15, 1, none⟩ fun s25p s25l s25c =>
   CallT Go.Proofs.Try.prog 23 [.agg #[.int .u64 x24, .slice s25p s25l s25c], .int .u64 i_8] (.s (.one (.int .u64))) fun x26 =>
   Chk1 ⟨n15, 0, none⟩ (.int .u64 x18) <|
   Chk1 ⟨n15, 1, none⟩ (.slice s19p s19l s19c) <|
   Chk1 ⟨n15, 0, none⟩ (.int .u64 x16) <|
   Chk1 ⟨n15, 1, none⟩ (.slice s17p s17l s17c) <|
   k (.bool (decide (x26 > 0)))) (
   k (.bool false)))
theorem F5_eq (k : Value → W) (x1 : Int) (s2p : Option Addr) (s2l : Nat) (s2c : Nat) (at_3 : Int) : compF Go.Proofs.Try.prog Go.Proofs.Try.f5 [] (Go.Proofs.Try.f5.body.getD .skip) [.agg #[.int .u64 x1, .slice s2p s2l s2c], .int .u16 at_3] k = F5 k x1 s2p s2l s2c at_3 := by kernel_rfl
theorem F5_calls {x1 : Int} {s2p : Option Addr} {s2l : Nat} {s2c : Nat} {at_3 : Int} {w : World} {R : Ending → World → Prop} (h : F5 (fun v w => R (.returned v) w) x1 s2p s2l s2c at_3 w) : Calls Go.Proofs.Try.prog 5 #[.agg #[.int .u64 x1, .slice s2p s2l s2c], .int .u16 at_3] w R :=
  calls_of_compF noNum follows [] (f := 5) (fn := Go.Proofs.Try.f5) (body := Go.Proofs.Try.f5.body.getD .skip) (args := [.agg #[.int .u64 x1, .slice s2p s2l s2c], .int .u16 at_3]) rfl rfl (Nat.le_of_ble_eq_true rfl) ((congrFun (F5_eq _ x1 s2p s2l s2c at_3) w).mpr h)
theorem F5_call {x1 : Int} {s2p : Option Addr} {s2l : Nat} {s2c : Nat} {at_3 : Int} {w : World} {g : Fn W (RTy.leaves (.s (.one .bool)))} (h : F5 (fun v => Back (.s (.one .bool)) g (.returned v)) x1 s2p s2l s2c at_3 w) : CallT Go.Proofs.Try.prog 5 [.agg #[.int .u64 x1, .slice s2p s2l s2c], .int .u16 at_3] (.s (.one .bool)) g w := F5_calls h

end Go.Proofs.Ytopdlfecfgimpaa.E
