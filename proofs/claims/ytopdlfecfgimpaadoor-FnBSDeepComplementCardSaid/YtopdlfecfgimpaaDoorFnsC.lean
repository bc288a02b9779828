/-
  Printed by this session's own program eng.py out of Lean's print of the loaded functions: what each function's body asks, in the engine's words; each is checked against the program by the kernel.
-/
import Derived.Test.YtopdlfecfgimpaaDoorEng
import Derived.Test.YtopdlfecfgimpaaDoorFnsA
namespace Go.Proofs.YtopdlfecfgimpaaDoor.E
open Go
set_option linter.unusedVariables false
set_option maxRecDepth 100000
/-! ## bits.OnesCount64 -/
def F56 (k : Value → W) (x_1 : Int) : W :=
 Bind (addI .u64 (andI .u64 (shrI .u64 x_1 1) 6148914691236517205) (andI .u64 x_1 6148914691236517205) : Int) fun x_2 =>
 Bind (addI .u64 (andI .u64 (shrI .u64 x_2 2) 3689348814741910323) (andI .u64 x_2 3689348814741910323) : Int) fun x_3 =>
 Bind (andI .u64 (addI .u64 (shrI .u64 x_3 4) x_3) 1085102592571150095 : Int) fun x_4 =>
 Bind (addI .u64 x_4 (shrI .u64 x_4 8) : Int) fun x_5 =>
 Bind (addI .u64 x_5 (shrI .u64 x_5 16) : Int) fun x_6 =>
 Bind (addI .u64 x_6 (shrI .u64 x_6 32) : Int) fun x_7 =>
 Bind (andI .i64 (IntKind.wrap .i64 x_7) 127 : Int) fun y8 =>
 k (.int .i64 y8)
theorem F56_eq (k : Value → W) (x_1 : Int) : compF Go.Proofs.Tryd.prog Go.Proofs.Tryd.f56 [] (Go.Proofs.Tryd.f56.body.getD .skip) [.int .u64 x_1] k = F56 k x_1 := by kernel_rfl
theorem F56_calls {x_1 : Int} {w : World} {R : Ending → World → Prop} (h : F56 (fun v w => R (.returned v) w) x_1 w) : Calls Go.Proofs.Tryd.prog 56 #[.int .u64 x_1] w R :=
  calls_of_compF noNum follows [] (f := 56) (fn := Go.Proofs.Tryd.f56) (body := Go.Proofs.Tryd.f56.body.getD .skip) (args := [.int .u64 x_1]) rfl rfl (Nat.le_of_ble_eq_true rfl) ((congrFun (F56_eq _ x_1) w).mpr h)
theorem F56_call {x_1 : Int} {w : World} {g : Fn W (RTy.leaves (.s (.one (.int .i64))))} (h : F56 (fun v => Back (.s (.one (.int .i64))) g (.returned v)) x_1 w) : CallT Go.Proofs.Tryd.prog 56 [.int .u64 x_1] (.s (.one (.int .i64))) g w := F56_calls h

/-! ## bitset.BitSet).Rank -/
def F41_L1 (k : Value → W) (again17 : Option Addr → Int → Int → Int → Int → Int → W) (b_11 : Option Addr) (index_12 : Int) (rank_13 : Int) (length_14 : Int) (idx_15 : Int) (j_16 : Int) : W :=
 BIf (decide (j_16 < idx_15)) (
  NN b_11 fun a18 =>
  LoadT .slice (a18.add 1) fun s19p s19l s19c =>
  NN s19p fun a20 =>
  Req (0 ≤ j_16 ∧ j_16 < ((s19l : Nat) : Int)) <|
  LoadT (.int .u64) (a20.add j_16.toNat) fun x21 =>
  BIf (x21 != 0) (
   CallT Go.Proofs.Tryd.prog 56 [.int .u64 x21] (.s (.one (.int .i64))) fun x22 =>
   Bind (addI .u64 rank_13 (IntKind.wrap .u64 x22) : Int) fun rank_23 =>
   again17 b_11 index_12 rank_23 length_14 idx_15 (addI .i64 j_16 1)) (
   again17 b_11 index_12 rank_13 length_14 idx_15 (addI .i64 j_16 1))) (
  BIf (decide (idx_15 < length_14)) (
   NN b_11 fun a24 =>
   LoadT .slice (a24.add 1) fun s25p s25l s25c =>
   NN s25p fun a26 =>
   Req (0 ≤ idx_15 ∧ idx_15 < ((s25l : Nat) : Int)) <|
   LoadT (.int .u64) (a26.add idx_15.toNat) fun x27 =>
   Req (0 ≤ subI .u64 63 (andI .u64 index_12 63)) <|
   CallT Go.Proofs.Tryd.prog 56 [.int .u64 (shlI .u64 x27 (subI .u64 63 (andI .u64 index_12 63)).toNat)] (.s (.one (.int .i64))) fun x28 =>
   Bind (addI .u64 rank_13 (IntKind.wrap .u64 x28) : Int) fun rank_29 =>
   k (.int .u64 rank_29)) (
   k (.int .u64 rank_13)))
theorem F41_L1_rule {k : Value → W} (I : Option Addr → Int → Int → Int → Int → Int → W) (μ : Option Addr → Int → Int → Int → Int → Int → World → Nat)
  (hr : ∀ (b_11 : Option Addr) (index_12 : Int) (rank_13 : Int) (length_14 : Int) (idx_15 : Int) (j_16 : Int) (w : World), I b_11 index_12 rank_13 length_14 idx_15 j_16 w → F41_L1 k (fun b_11' index_12' rank_13' length_14' idx_15' j_16' w' => I b_11' index_12' rank_13' length_14' idx_15' j_16' w' ∧ μ b_11' index_12' rank_13' length_14' idx_15' j_16' w' < μ b_11 index_12 rank_13 length_14 idx_15 j_16 w) b_11 index_12 rank_13 length_14 idx_15 j_16 w)
  {w : World} {b_11 : Option Addr} {index_12 : Int} {rank_13 : Int} {length_14 : Int} {idx_15 : Int} {j_16 : Int} (h : I b_11 index_12 rank_13 length_14 idx_15 j_16 w) : Loop [.ptr, (.int .u64), (.int .u64), (.int .i64), (.int .i64), (.int .i64)] (F41_L1 k) b_11 index_12 rank_13 length_14 idx_15 j_16 w :=
  Loop_intro (ts := [.ptr, (.int .u64), (.int .u64), (.int .i64), (.int .i64), (.int .i64)]) (s := (b_11, index_12, rank_13, length_14, idx_15, j_16, ())) (fun s w => I s.1 s.2.1 s.2.2.1 s.2.2.2.1 s.2.2.2.2.1 s.2.2.2.2.2.1 w) (fun s w => μ s.1 s.2.1 s.2.2.1 s.2.2.2.1 s.2.2.2.2.1 s.2.2.2.2.2.1 w) h (fun s w h => hr s.1 s.2.1 s.2.2.1 s.2.2.2.1 s.2.2.2.2.1 s.2.2.2.2.2.1 w h)
def F41_J1 (k : Value → W) (b_6 : Option Addr) (index_7 : Int) (rank_8 : Int) (length_9 : Int) (idx_10 : Int) : W :=
 Loop [.ptr, (.int .u64), (.int .u64), (.int .i64), (.int .i64), (.int .i64)] (F41_L1 k) b_6 index_7 rank_8 length_9 idx_10 0
def F41 (k : Value → W) (b_1 : Option Addr) (index_2 : Int) : W :=
 NN b_1 fun a3 =>
 LoadT .slice (a3.add 1) fun s4p s4l s4c =>
 Bind (IntKind.wrap .i64 (shrI .u64 index_2 6) : Int) fun idx_5 =>
 BIf (decide (idx_5 > ((s4l : Nat) : Int))) (
  F41_J1 k b_1 index_2 0 ((s4l : Nat) : Int) ((s4l : Nat) : Int)) (
  F41_J1 k b_1 index_2 0 ((s4l : Nat) : Int) idx_5)
theorem F41_eq (k : Value → W) (b_1 : Option Addr) (index_2 : Int) : compF Go.Proofs.Tryd.prog Go.Proofs.Tryd.f41 [(6, [(0, .ptr), (1, (.int .u64)), (4, (.int .u64)), (5, (.int .i64)), (6, (.int .i64)), (7, (.int .i64))])] (Go.Proofs.Tryd.f41.body.getD .skip) [.pointer b_1, .int .u64 index_2] k = F41 k b_1 index_2 := by kernel_rfl
theorem F41_calls {b_1 : Option Addr} {index_2 : Int} {w : World} {R : Ending → World → Prop} (h : F41 (fun v w => R (.returned v) w) b_1 index_2 w) : Calls Go.Proofs.Tryd.prog 41 #[.pointer b_1, .int .u64 index_2] w R :=
  calls_of_compF noNum follows [(6, [(0, .ptr), (1, (.int .u64)), (4, (.int .u64)), (5, (.int .i64)), (6, (.int .i64)), (7, (.int .i64))])] (f := 41) (fn := Go.Proofs.Tryd.f41) (body := Go.Proofs.Tryd.f41.body.getD .skip) (args := [.pointer b_1, .int .u64 index_2]) rfl rfl (Nat.le_of_ble_eq_true rfl) ((congrFun (F41_eq _ b_1 index_2) w).mpr h)
theorem F41_call {b_1 : Option Addr} {index_2 : Int} {w : World} {g : Fn W (RTy.leaves (.s (.one (.int .u64))))} (h : F41 (fun v => Back (.s (.one (.int .u64))) g (.returned v)) b_1 index_2 w) : CallT Go.Proofs.Tryd.prog 41 [.pointer b_1, .int .u64 index_2] (.s (.one (.int .u64))) g w := F41_calls h

/-! ## impl.BSRank -/
def F19 (k : Value → W) (x1 : Int) (s2p : Option Addr) (s2l : Nat) (s2c : Nat) (i_3 : Int) : W :=
 New [.int .u64 x1, .slice s2p s2l s2c] 25 fun n4 =>
 LoadT (.int .u64) ⟨n4, 0, none⟩ fun x5 =>
 LoadT .slice ⟨n4, 1, none⟩ fun s6p s6l s6c =>
 CallT Go.Proofs.Tryd.prog 29 [.agg #[.int .u64 x5, .slice s6p s6l s6c]] (.s (.one .ptr)) fun p7 =>
 CallT Go.Proofs.Tryd.prog 41 [.pointer p7, .int .u64 i_3] (.s (.one (.int .u64))) fun x8 =>
 k (.int .u64 x8)
theorem F19_eq (k : Value → W) (x1 : Int) (s2p : Option Addr) (s2l : Nat) (s2c : Nat) (i_3 : Int) : compF Go.Proofs.Tryd.prog Go.Proofs.Tryd.f19 [] (Go.Proofs.Tryd.f19.body.getD .skip) [.agg #[.int .u64 x1, .slice s2p s2l s2c], .int .u64 i_3] k = F19 k x1 s2p s2l s2c i_3 := by kernel_rfl
theorem F19_calls {x1 : Int} {s2p : Option Addr} {s2l : Nat} {s2c : Nat} {i_3 : Int} {w : World} {R : Ending → World → Prop} (h : F19 (fun v w => R (.returned v) w) x1 s2p s2l s2c i_3 w) : Calls Go.Proofs.Tryd.prog 19 #[.agg #[.int .u64 x1, .slice s2p s2l s2c], .int .u64 i_3] w R :=
  calls_of_compF noNum follows [] (f := 19) (fn := Go.Proofs.Tryd.f19) (body := Go.Proofs.Tryd.f19.body.getD .skip) (args := [.agg #[.int .u64 x1, .slice s2p s2l s2c], .int .u64 i_3]) rfl rfl (Nat.le_of_ble_eq_true rfl) ((congrFun (F19_eq _ x1 s2p s2l s2c i_3) w).mpr h)
theorem F19_call {x1 : Int} {s2p : Option Addr} {s2l : Nat} {s2c : Nat} {i_3 : Int} {w : World} {g : Fn W (RTy.leaves (.s (.one (.int .u64))))} (h : F19 (fun v => Back (.s (.one (.int .u64))) g (.returned v)) x1 s2p s2l s2c i_3 w) : CallT Go.Proofs.Tryd.prog 19 [.agg #[.int .u64 x1, .slice s2p s2l s2c], .int .u64 i_3] (.s (.one (.int .u64))) g w := F19_calls h

/-! ## bitset.BitSet).Complement -/
def F43_L1 (k : Value → W) (again11 : Option Addr → Option Addr → Nat → Nat → Int → Int → W) (result_7 : Option Addr) (s8p : Option Addr) (s8l : Nat) (s8c : Nat) (x9 : Int) (x10 : Int) : W :=
 BIf (decide (x10 < x9)) (
  NN s8p fun a12 =>
  Req (0 ≤ x10 ∧ x10 < ((s8l : Nat) : Int)) <|
  LoadT (.int .u64) (a12.add x10.toNat) fun x13 =>
  NN result_7 fun a14 =>
  LoadT .slice (a14.add 1) fun s15p s15l s15c =>
  NN s15p fun a16 =>
  Req (0 ≤ x10 ∧ x10 < ((s15l : Nat) : Int)) <|
  Store1 (a16.add x10.toNat) (.int .u64 (xorI .u64 (IntKind.max .u64) x13)) <|
  again11 result_7 s8p s8l s8c x9 (addI .i64 x10 1)) (
  CallT Go.Proofs.Tryd.prog 59 [.pointer result_7] (.tup []) <|
  k (.pointer result_7))
theorem F43_L1_rule {k : Value → W} (I : Option Addr → Option Addr → Nat → Nat → Int → Int → W) (μ : Option Addr → Option Addr → Nat → Nat → Int → Int → World → Nat)
  (hr : ∀ (result_7 : Option Addr) (s8p : Option Addr) (s8l : Nat) (s8c : Nat) (x9 : Int) (x10 : Int) (w : World), I result_7 s8p s8l s8c x9 x10 w → F43_L1 k (fun result_7' s8p' s8l' s8c' x9' x10' w' => I result_7' s8p' s8l' s8c' x9' x10' w' ∧ μ result_7' s8p' s8l' s8c' x9' x10' w' < μ result_7 s8p s8l s8c x9 x10 w) result_7 s8p s8l s8c x9 x10 w)
  {w : World} {result_7 : Option Addr} {s8p : Option Addr} {s8l : Nat} {s8c : Nat} {x9 : Int} {x10 : Int} (h : I result_7 s8p s8l s8c x9 x10 w) : Loop [.ptr, .slice, (.int .i64), (.int .i64)] (F43_L1 k) result_7 s8p s8l s8c x9 x10 w :=
  Loop_intro (ts := [.ptr, .slice, (.int .i64), (.int .i64)]) (s := (result_7, (s8p, s8l, s8c), x9, x10, ())) (fun s w => I s.1 s.2.1.1 s.2.1.2.1 s.2.1.2.2 s.2.2.1 s.2.2.2.1 w) (fun s w => μ s.1 s.2.1.1 s.2.1.2.1 s.2.1.2.2 s.2.2.1 s.2.2.2.1 w) h (fun s w h => hr s.1 s.2.1.1 s.2.1.2.1 s.2.1.2.2 s.2.2.1 s.2.2.2.1 w h)
def F43 (k : Value → W) (b_1 : Option Addr) : W :=
 CallT Go.Proofs.Tryd.prog 55 [.pointer b_1] (.tup []) <|
 NN b_1 fun a2 =>
 LoadT (.int .u64) a2 fun x3 =>
 CallT Go.Proofs.Tryd.prog 50 [.int .u64 x3] (.s (.one .ptr)) fun p4 =>
 NN b_1 fun a5 =>
 LoadT .slice (a5.add 1) fun s6p s6l s6c =>
 Loop [.ptr, .slice, (.int .i64), (.int .i64)] (F43_L1 k) p4 s6p s6l s6c ((s6l : Nat) : Int) 0
theorem F43_eq (k : Value → W) (b_1 : Option Addr) : compF Go.Proofs.Tryd.prog Go.Proofs.Tryd.f43 [(4, [(2, .ptr), (15, .slice), (16, (.int .i64)), (17, (.int .i64))])] (Go.Proofs.Tryd.f43.body.getD .skip) [.pointer b_1] k = F43 k b_1 := by kernel_rfl
theorem F43_calls {b_1 : Option Addr} {w : World} {R : Ending → World → Prop} (h : F43 (fun v w => R (.returned v) w) b_1 w) : Calls Go.Proofs.Tryd.prog 43 #[.pointer b_1] w R :=
  calls_of_compF noNum follows [(4, [(2, .ptr), (15, .slice), (16, (.int .i64)), (17, (.int .i64))])] (f := 43) (fn := Go.Proofs.Tryd.f43) (body := Go.Proofs.Tryd.f43.body.getD .skip) (args := [.pointer b_1]) rfl rfl (Nat.le_of_ble_eq_true rfl) ((congrFun (F43_eq _ b_1) w).mpr h)
theorem F43_call {b_1 : Option Addr} {w : World} {g : Fn W (RTy.leaves (.s (.one .ptr)))} (h : F43 (fun v => Back (.s (.one .ptr)) g (.returned v)) b_1 w) : CallT Go.Proofs.Tryd.prog 43 [.pointer b_1] (.s (.one .ptr)) g w := F43_calls h

/-! ## impl.BSComplement -/
def F21 (k : Value → W) (x1 : Int) (s2p : Option Addr) (s2l : Nat) (s2c : Nat) : W :=
 New [.int .u64 x1, .slice s2p s2l s2c] 25 fun n3 =>
 New [.int .u64 0, .slice none 0 0] 25 fun n4 =>
 LoadT (.int .u64) ⟨n3, 0, none⟩ fun x5 =>
 LoadT .slice ⟨n3, 1, none⟩ fun s6p s6l s6c =>
 CallT Go.Proofs.Tryd.prog 29 [.agg #[.int .u64 x5, .slice s6p s6l s6c]] (.s (.one .ptr)) fun p7 =>
 CallT Go.Proofs.Tryd.prog 43 [.pointer p7] (.s (.one .ptr)) fun p8 =>
 CallT Go.Proofs.Tryd.prog 31 [.pointer p8] (.s (.agg [(.int .u64), .slice])) fun x9 s10p s10l s10c =>
 Store1 ⟨n4, 0, none⟩ (.int .u64 x9) <|
 Store1 ⟨n4, 1, none⟩ (.slice s10p s10l s10c) <|
 LoadT (.int .u64) ⟨n4, 0, none⟩ fun x11 =>
 LoadT .slice ⟨n4, 1, none⟩ fun s12p s12l s12c =>
 k (.agg #[.int .u64 x11, .slice s12p s12l s12c])
theorem F21_eq (k : Value → W) (x1 : Int) (s2p : Option Addr) (s2l : Nat) (s2c : Nat) : compF Go.Proofs.Tryd.prog Go.Proofs.Tryd.f21 [] (Go.Proofs.Tryd.f21.body.getD .skip) [.agg #[.int .u64 x1, .slice s2p s2l s2c]] k = F21 k x1 s2p s2l s2c := by kernel_rfl
theorem F21_calls {x1 : Int} {s2p : Option Addr} {s2l : Nat} {s2c : Nat} {w : World} {R : Ending → World → Prop} (h : F21 (fun v w => R (.returned v) w) x1 s2p s2l s2c w) : Calls Go.Proofs.Tryd.prog 21 #[.agg #[.int .u64 x1, .slice s2p s2l s2c]] w R :=
  calls_of_compF noNum follows [] (f := 21) (fn := Go.Proofs.Tryd.f21) (body := Go.Proofs.Tryd.f21.body.getD .skip) (args := [.agg #[.int .u64 x1, .slice s2p s2l s2c]]) rfl rfl (Nat.le_of_ble_eq_true rfl) ((congrFun (F21_eq _ x1 s2p s2l s2c) w).mpr h)
theorem F21_call {x1 : Int} {s2p : Option Addr} {s2l : Nat} {s2c : Nat} {w : World} {g : Fn W (RTy.leaves (.s (.agg [(.int .u64), .slice])))} (h : F21 (fun v => Back (.s (.agg [(.int .u64), .slice])) g (.returned v)) x1 s2p s2l s2c w) : CallT Go.Proofs.Tryd.prog 21 [.agg #[.int .u64 x1, .slice s2p s2l s2c]] (.s (.agg [(.int .u64), .slice])) g w := F21_calls h

end Go.Proofs.YtopdlfecfgimpaaDoor.E
