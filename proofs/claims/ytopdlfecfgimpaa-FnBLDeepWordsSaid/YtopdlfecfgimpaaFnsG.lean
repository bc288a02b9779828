/-
  Printed by this session's own program eng.py out of Lean's print of the loaded functions: what each function's body asks, in the engine's words; each is checked against the program by the kernel.
-/
import Derived.Test.YtopdlfecfgimpaaEng
import Derived.Test.YtopdlfecfgimpaaFnsA
namespace Go.Proofs.Ytopdlfecfgimpaa.E
open Go
set_option linter.unusedVariables false
set_option maxRecDepth 100000
/-! ## laws.blFilter -/
def F37_J2 (k : Value → W) (again10 : Option Addr → Nat → Nat → Addr → Addr → Int → W) (words_22p : Option Addr) (words_22l : Nat) (words_22c : Nat) (a23 : Addr) (f_24 : Addr) (i_25 : Int) (w_26 : Int) : W :=
 LoadT .slice (f_24.add 2) fun s27p s27l s27c =>
 RawT Go.Proofs.Try.prog (Instr.buildSlice 43 1 [(0, .int .u64 w_26)].toArray) (.s (.one .slice)) fun s28p s28l s28c =>
 NextT Go.Proofs.Try.prog (builtin .append #[43, 43] 43 [false, false].toArray [.slice s27p s27l s27c, .slice s28p s28l s28c].toArray) (.s (.one .slice)) fun s29p s29l s29c =>
 Store1 (f_24.add 2) (.slice s29p s29l s29c) <|
 again10 words_22p words_22l words_22c a23 f_24 (addI .u64 i_25 1)
def F37_J1 (k : Value → W) (again10 : Option Addr → Nat → Nat → Addr → Addr → Int → W) (words_14p : Option Addr) (words_14l : Nat) (words_14c : Nat) (a15 : Addr) (f_16 : Addr) (i_17 : Int) (w_18 : Int) : W :=
 LoadT (.int .u64) f_16 fun x19 =>
 Bind (subI .u64 x19 (mulI .u64 64 i_17) : Int) fun left_20 =>
 BIf (decide (left_20 < 64)) (
  Req (0 ≤ left_20) <|
  Bind (andI .u64 w_18 (subI .u64 (shlI .u64 1 left_20.toNat) 1) : Int) fun w_21 =>
  F37_J2 k again10 words_14p words_14l words_14c a15 f_16 i_17 w_21) (
  F37_J2 k again10 words_14p words_14l words_14c a15 f_16 i_17 w_18)
def F37_L1 (k : Value → W) (again10 : Option Addr → Nat → Nat → Addr → Addr → Int → W) (words_6p : Option Addr) (words_6l : Nat) (words_6c : Nat) (a7 : Addr) (f_8 : Addr) (i_9 : Int) : W :=
 LoadT (.int .u64) f_8 fun x11 =>
 Req (64 ≠ (0 : Int)) <|
 BIf (decide (i_9 < (quoI .u64 (addI .u64 x11 63) 64))) (
  BIf (decide (i_9 < (IntKind.wrap .u64 ((words_6l : Nat) : Int)))) (
   NN words_6p fun a12 =>
   Req (0 ≤ i_9 ∧ i_9 < ((words_6l : Nat) : Int)) <|
   LoadT (.int .u64) (a12.add i_9.toNat) fun x13 =>
   F37_J1 k again10 words_6p words_6l words_6c a7 f_8 i_9 x13) (
   F37_J1 k again10 words_6p words_6l words_6c a7 f_8 i_9 0)) (
  LoadT (.int .u64) (f_8.add 0) fun x30 =>
  LoadT (.int .u64) (f_8.add 1) fun x31 =>
  LoadT .slice (f_8.add 2) fun s32p s32l s32c =>
  Store1 (a7.add 0) (.int .u64 x30) <|
  Store1 (a7.add 1) (.int .u64 x31) <|
  Store1 (a7.add 2) (.slice s32p s32l s32c) <|
  LoadT (.int .u64) (a7.add 0) fun x33 =>
  LoadT (.int .u64) (a7.add 1) fun x34 =>
  LoadT .slice (a7.add 2) fun s35p s35l s35c =>
  k (.agg #[.int .u64 x33, .int .u64 x34, .slice s35p s35l s35c]))
theorem F37_L1_rule {k : Value → W} (I : Option Addr → Nat → Nat → Addr → Addr → Int → W) (μ : Option Addr → Nat → Nat → Addr → Addr → Int → World → Nat)
  (hr : ∀ (words_6p : Option Addr) (words_6l : Nat) (words_6c : Nat) (a7 : Addr) (f_8 : Addr) (i_9 : Int) (w : World), I words_6p words_6l words_6c a7 f_8 i_9 w → F37_L1 k (fun words_6p' words_6l' words_6c' a7' f_8' i_9' w' => I words_6p' words_6l' words_6c' a7' f_8' i_9' w' ∧ μ words_6p' words_6l' words_6c' a7' f_8' i_9' w' < μ words_6p words_6l words_6c a7 f_8 i_9 w) words_6p words_6l words_6c a7 f_8 i_9 w)
  {w : World} {words_6p : Option Addr} {words_6l : Nat} {words_6c : Nat} {a7 : Addr} {f_8 : Addr} {i_9 : Int} (h : I words_6p words_6l words_6c a7 f_8 i_9 w) : Loop [.slice, .addr, .addr, (.int .u64)] (F37_L1 k) words_6p words_6l words_6c a7 f_8 i_9 w :=
  Loop_intro (ts := [.slice, .addr, .addr, (.int .u64)]) (s := ((words_6p, words_6l, words_6c), a7, f_8, i_9, ())) (fun s w => I s.1.1 s.1.2.1 s.1.2.2 s.2.1 s.2.2.1 s.2.2.2.1 w) (fun s w => μ s.1.1 s.1.2.1 s.1.2.2 s.2.1 s.2.2.1 s.2.2.2.1 w) h (fun s w h => hr s.1.1 s.1.2.1 s.1.2.2 s.2.1 s.2.2.1 s.2.2.2.1 w h)
def F37 (k : Value → W) (m_1 : Int) (k_2 : Int) (words_3p : Option Addr) (words_3l : Nat) (words_3c : Nat) : W :=
 New [.int .u64 0, .int .u64 0, .slice none 0 0] 46 fun n4 =>
 Req (700 ≠ (0 : Int)) <|
 Req (8 ≠ (0 : Int)) <|
 New [.int .u64 0, .int .u64 0, .slice none 0 0] 46 fun n5 =>
 Store1 ⟨n5, 0, none⟩ (.int .u64 (addI .u64 1 (remI (IntKind.wrap .u64 m_1) 700))) <|
 Store1 ⟨n5, 1, none⟩ (.int .u64 (addI .u64 1 (remI (IntKind.wrap .u64 k_2) 8))) <|
 Store1 ⟨n5, 2, none⟩ (.slice none 0 0) <|
 Loop [.slice, .addr, .addr, (.int .u64)] (F37_L1 k) words_3p words_3l words_3c ⟨n4, 0, none⟩ ⟨n5, 0, none⟩ 0
theorem F37_eq (k : Value → W) (m_1 : Int) (k_2 : Int) (words_3p : Option Addr) (words_3l : Nat) (words_3c : Nat) : compF Go.Proofs.Try.prog Go.Proofs.Try.f37 [(3, [(2, .slice), (6, .addr), (7, .addr), (8, (.int .u64))])] (Go.Proofs.Try.f37.body.getD .skip) [.int .u16 m_1, .int .u8 k_2, .slice words_3p words_3l words_3c] k = F37 k m_1 k_2 words_3p words_3l words_3c := by kernel_rfl
theorem F37_calls {m_1 : Int} {k_2 : Int} {words_3p : Option Addr} {words_3l : Nat} {words_3c : Nat} {w : World} {R : Ending → World → Prop} (h : F37 (fun v w => R (.returned v) w) m_1 k_2 words_3p words_3l words_3c w) : Calls Go.Proofs.Try.prog 37 #[.int .u16 m_1, .int .u8 k_2, .slice words_3p words_3l words_3c] w R :=
  calls_of_compF noNum follows [(3, [(2, .slice), (6, .addr), (7, .addr), (8, (.int .u64))])] (f := 37) (fn := Go.Proofs.Try.f37) (body := Go.Proofs.Try.f37.body.getD .skip) (args := [.int .u16 m_1, .int .u8 k_2, .slice words_3p words_3l words_3c]) rfl rfl (Nat.le_of_ble_eq_true rfl) ((congrFun (F37_eq _ m_1 k_2 words_3p words_3l words_3c) w).mpr h)
theorem F37_call {m_1 : Int} {k_2 : Int} {words_3p : Option Addr} {words_3l : Nat} {words_3c : Nat} {w : World} {g : Fn W (RTy.leaves (.s (.agg [(.int .u64), (.int .u64), .slice])))} (h : F37 (fun v => Back (.s (.agg [(.int .u64), (.int .u64), .slice])) g (.returned v)) m_1 k_2 words_3p words_3l words_3c w) : CallT Go.Proofs.Try.prog 37 [.int .u16 m_1, .int .u8 k_2, .slice words_3p words_3l words_3c] (.s (.agg [(.int .u64), (.int .u64), .slice])) g w := F37_calls h

/-! ## laws.blData -/
def F38 (k : Value → W) (b_1p : Option Addr) (b_1l : Nat) (b_1c : Nat) : W :=
 BIf (decide (((b_1l : Nat) : Int) > 80)) (
  Req (0 ≤ (80 : Int) ∧ (80 : Int) ≤ ((b_1c : Nat) : Int)) <|
  k (.slice (sliceA b_1p 0 b_1c 1) (80 - 0) (b_1c - 0))) (
  k (.slice b_1p b_1l b_1c))
theorem F38_eq (k : Value → W) (b_1p : Option Addr) (b_1l : Nat) (b_1c : Nat) : compF Go.Proofs.Try.prog Go.Proofs.Try.f38 [] (Go.Proofs.Try.f38.body.getD .skip) [.slice b_1p b_1l b_1c] k = F38 k b_1p b_1l b_1c := by kernel_rfl
theorem F38_calls {b_1p : Option Addr} {b_1l : Nat} {b_1c : Nat} {w : World} {R : Ending → World → Prop} (h : F38 (fun v w => R (.returned v) w) b_1p b_1l b_1c w) : Calls Go.Proofs.Try.prog 38 #[.slice b_1p b_1l b_1c] w R :=
  calls_of_compF noNum follows [] (f := 38) (fn := Go.Proofs.Try.f38) (body := Go.Proofs.Try.f38.body.getD .skip) (args := [.slice b_1p b_1l b_1c]) rfl rfl (Nat.le_of_ble_eq_true rfl) ((congrFun (F38_eq _ b_1p b_1l b_1c) w).mpr h)
theorem F38_call {b_1p : Option Addr} {b_1l : Nat} {b_1c : Nat} {w : World} {g : Fn W (RTy.leaves (.s (.one .slice)))} (h : F38 (fun v => Back (.s (.one .slice)) g (.returned v)) b_1p b_1l b_1c w) : CallT Go.Proofs.Try.prog 38 [.slice b_1p b_1l b_1c] (.s (.one .slice)) g w := F38_calls h

/-! ## binary.littleEndian).Uint64 -/
def F119 (k : Value → W) (b_1p : Option Addr) (b_1l : Nat) (b_1c : Nat) : W :=
 New [] 127 fun n2 =>
 NN b_1p fun a3 =>
 Req (0 ≤ (7 : Int) ∧ (7 : Int) < ((b_1l : Nat) : Int)) <|
 LoadT (.int .u8) (a3.add ((7 : Int).toNat)) fun x4 =>
 Drw <|
 NN b_1p fun a5 =>
 Req (0 ≤ (0 : Int) ∧ (0 : Int) < ((b_1l : Nat) : Int)) <|
 LoadT (.int .u8) (a5.add ((0 : Int).toNat)) fun x6 =>
 NN b_1p fun a7 =>
 Req (0 ≤ (1 : Int) ∧ (1 : Int) < ((b_1l : Nat) : Int)) <|
 LoadT (.int .u8) (a7.add ((1 : Int).toNat)) fun x8 =>
 NN b_1p fun a9 =>
 Req (0 ≤ (2 : Int) ∧ (2 : Int) < ((b_1l : Nat) : Int)) <|
 LoadT (.int .u8) (a9.add ((2 : Int).toNat)) fun x10 =>
 NN b_1p fun a11 =>
 Req (0 ≤ (3 : Int) ∧ (3 : Int) < ((b_1l : Nat) : Int)) <|
 LoadT (.int .u8) (a11.add ((3 : Int).toNat)) fun x12 =>
 NN b_1p fun a13 =>
 Req (0 ≤ (4 : Int) ∧ (4 : Int) < ((b_1l : Nat) : Int)) <|
 LoadT (.int .u8) (a13.add ((4 : Int).toNat)) fun x14 =>
 NN b_1p fun a15 =>
 Req (0 ≤ (5 : Int) ∧ (5 : Int) < ((b_1l : Nat) : Int)) <|
 LoadT (.int .u8) (a15.add ((5 : Int).toNat)) fun x16 =>
 NN b_1p fun a17 =>
 Req (0 ≤ (6 : Int) ∧ (6 : Int) < ((b_1l : Nat) : Int)) <|
 LoadT (.int .u8) (a17.add ((6 : Int).toNat)) fun x18 =>
 NN b_1p fun a19 =>
 Req (0 ≤ (7 : Int) ∧ (7 : Int) < ((b_1l : Nat) : Int)) <|
 LoadT (.int .u8) (a19.add ((7 : Int).toNat)) fun x20 =>
 Bind (orI .u64 (orI .u64 (orI .u64 (orI .u64 (orI .u64 (orI .u64 (orI .u64 (IntKind.wrap .u64 x6) (shlI .u64 (IntKind.wrap .u64 x8) 8)) (shlI .u64 (IntKind.wrap .u64 x10) 16)) (shlI .u64 (IntKind.wrap .u64 x12) 24)) (shlI .u64 (IntKind.wrap .u64 x14) 32)) (shlI .u64 (IntKind.wrap .u64 x16) 40)) (shlI .u64 (IntKind.wrap .u64 x18) 48)) (shlI .u64 (IntKind.wrap .u64 x20) 56) : Int) fun y21 =>
 k (.int .u64 y21)
theorem F119_eq (k : Value → W) (b_1p : Option Addr) (b_1l : Nat) (b_1c : Nat) : compF Go.Proofs.Try.prog Go.Proofs.Try.f119 [] (Go.Proofs.Try.f119.body.getD .skip) [.agg #[], .slice b_1p b_1l b_1c] k = F119 k b_1p b_1l b_1c := by kernel_rfl
theorem F119_calls {b_1p : Option Addr} {b_1l : Nat} {b_1c : Nat} {w : World} {R : Ending → World → Prop} (h : F119 (fun v w => R (.returned v) w) b_1p b_1l b_1c w) : Calls Go.Proofs.Try.prog 119 #[.agg #[], .slice b_1p b_1l b_1c] w R :=
  calls_of_compF noNum follows [] (f := 119) (fn := Go.Proofs.Try.f119) (body := Go.Proofs.Try.f119.body.getD .skip) (args := [.agg #[], .slice b_1p b_1l b_1c]) rfl rfl (Nat.le_of_ble_eq_true rfl) ((congrFun (F119_eq _ b_1p b_1l b_1c) w).mpr h)
theorem F119_call {b_1p : Option Addr} {b_1l : Nat} {b_1c : Nat} {w : World} {g : Fn W (RTy.leaves (.s (.one (.int .u64))))} (h : F119 (fun v => Back (.s (.one (.int .u64))) g (.returned v)) b_1p b_1l b_1c w) : CallT Go.Proofs.Try.prog 119 [.agg #[], .slice b_1p b_1l b_1c] (.s (.one (.int .u64))) g w := F119_calls h

/-! ## bits.RotateLeft64 -/
def F122 (k : Value → W) (x_1 : Int) (k_2 : Int) : W :=
 Bind (andI .u64 (IntKind.wrap .u64 k_2) 63 : Int) fun s_3 =>
 Req (0 ≤ s_3) <|
 Req (0 ≤ subI .u64 64 s_3) <|
 Bind (orI .u64 (shlI .u64 x_1 s_3.toNat) (shrI .u64 x_1 (subI .u64 64 s_3).toNat) : Int) fun y4 =>
 k (.int .u64 y4)
theorem F122_eq (k : Value → W) (x_1 : Int) (k_2 : Int) : compF Go.Proofs.Try.prog Go.Proofs.Try.f122 [] (Go.Proofs.Try.f122.body.getD .skip) [.int .u64 x_1, .int .i64 k_2] k = F122 k x_1 k_2 := by kernel_rfl
theorem F122_calls {x_1 : Int} {k_2 : Int} {w : World} {R : Ending → World → Prop} (h : F122 (fun v w => R (.returned v) w) x_1 k_2 w) : Calls Go.Proofs.Try.prog 122 #[.int .u64 x_1, .int .i64 k_2] w R :=
  calls_of_compF noNum follows [] (f := 122) (fn := Go.Proofs.Try.f122) (body := Go.Proofs.Try.f122.body.getD .skip) (args := [.int .u64 x_1, .int .i64 k_2]) rfl rfl (Nat.le_of_ble_eq_true rfl) ((congrFun (F122_eq _ x_1 k_2) w).mpr h)
theorem F122_call {x_1 : Int} {k_2 : Int} {w : World} {g : Fn W (RTy.leaves (.s (.one (.int .u64))))} (h : F122 (fun v => Back (.s (.one (.int .u64))) g (.returned v)) x_1 k_2 w) : CallT Go.Proofs.Try.prog 122 [.int .u64 x_1, .int .i64 k_2] (.s (.one (.int .u64))) g w := F122_calls h

/-! ## bloom.digest128).bmix_words -/
def F121 (k : Value → W) (d_1 : Option Addr) (k1_2 : Int) (k2_3 : Int) : W :=
 Drw <|
 NN d_1 fun a4 =>
 LoadT (.int .u64) a4 fun x5 =>
 NN d_1 fun a6 =>
 LoadT (.int .u64) (a6.add 1) fun x7 =>
 Bind (mulI .u64 k1_2 9782798678568883157 : Int) fun k1_8 =>
 CallT Go.Proofs.Try.prog 122 [.int .u64 k1_8, .int .i64 31] (.s (.one (.int .u64))) fun x9 =>
 Bind (mulI .u64 x9 5545529020109919103 : Int) fun k1_10 =>
 CallT Go.Proofs.Try.prog 122 [.int .u64 (xorI .u64 x5 k1_10), .int .i64 27] (.s (.one (.int .u64))) fun x11 =>
 Bind (addI .u64 (mulI .u64 (addI .u64 x11 x7) 5) 1390208809 : Int) fun h1_12 =>
 Bind (mulI .u64 k2_3 5545529020109919103 : Int) fun k2_13 =>
 CallT Go.Proofs.Try.prog 122 [.int .u64 k2_13, .int .i64 33] (.s (.one (.int .u64))) fun x14 =>
 Bind (mulI .u64 x14 9782798678568883157 : Int) fun k2_15 =>
 CallT Go.Proofs.Try.prog 122 [.int .u64 (xorI .u64 x7 k2_15), .int .i64 31] (.s (.one (.int .u64))) fun x16 =>
 Bind (addI .u64 (mulI .u64 (addI .u64 x16 h1_12) 5) 944331445 : Int) fun h2_17 =>
 NN d_1 fun a18 =>
 Store1 a18 (.int .u64 h1_12) <|
 NN d_1 fun a19 =>
 Store1 (a19.add 1) (.int .u64 h2_17) <|
 k (.tuple #[])
theorem F121_eq (k : Value → W) (d_1 : Option Addr) (k1_2 : Int) (k2_3 : Int) : compF Go.Proofs.Try.prog Go.Proofs.Try.f121 [] (Go.Proofs.Try.f121.body.getD .skip) [.pointer d_1, .int .u64 k1_2, .int .u64 k2_3] k = F121 k d_1 k1_2 k2_3 := by kernel_rfl
theorem F121_calls {d_1 : Option Addr} {k1_2 : Int} {k2_3 : Int} {w : World} {R : Ending → World → Prop} (h : F121 (fun v w => R (.returned v) w) d_1 k1_2 k2_3 w) : Calls Go.Proofs.Try.prog 121 #[.pointer d_1, .int .u64 k1_2, .int .u64 k2_3] w R :=
  calls_of_compF noNum follows [] (f := 121) (fn := Go.Proofs.Try.f121) (body := Go.Proofs.Try.f121.body.getD .skip) (args := [.pointer d_1, .int .u64 k1_2, .int .u64 k2_3]) rfl rfl (Nat.le_of_ble_eq_true rfl) ((congrFun (F121_eq _ d_1 k1_2 k2_3) w).mpr h)
theorem F121_call {d_1 : Option Addr} {k1_2 : Int} {k2_3 : Int} {w : World} {g : Fn W (RTy.leaves (.tup []))} (h : F121 (fun v => Back (.tup []) g (.returned v)) d_1 k1_2 k2_3 w) : CallT Go.Proofs.Try.prog 121 [.pointer d_1, .int .u64 k1_2, .int .u64 k2_3] (.tup []) g w := F121_calls h

/-! ## bloom.digest128).bmix -/
def F117_L1 (k : Value → W) (again8 : Option Addr → Option Addr → Nat → Nat → Int → Int → W) (d_4 : Option Addr) (p_5p : Option Addr) (p_5l : Nat) (p_5c : Nat) (nblocks_6 : Int) (i_7 : Int) : W :=
 BIf (decide (i_7 < nblocks_6)) (
  Req (0 ≤ mulI .i64 (addI .i64 i_7 1) 16 ∧ mulI .i64 (addI .i64 i_7 1) 16 ≤ ((p_5c : Nat) : Int)) <|
  Req (0 ≤ mulI .i64 i_7 16 ∧ mulI .i64 i_7 16 ≤ (((mulI .i64 (addI .i64 i_7 1) 16).toNat : Nat) : Int)) <|
  Drw <|
  Req (0 ≤ (8 : Int) ∧ (8 : Int) ≤ ((p_5c - ((mulI .i64 i_7 16).toNat) : Nat) : Int)) <|
  Req (0 ≤ (8 : Int) ∧ (8 : Int) ≤ ((((mulI .i64 (addI .i64 i_7 1) 16).toNat) - ((mulI .i64 i_7 16).toNat) : Nat) : Int)) <|
  CallT Go.Proofs.Try.prog 119 [.agg #[], .slice (sliceA (sliceA p_5p ((mulI .i64 i_7 16).toNat) p_5c 1) 0 (p_5c - ((mulI .i64 i_7 16).toNat)) 1) (8 - 0) ((p_5c - ((mulI .i64 i_7 16).toNat)) - 0)] (.s (.one (.int .u64))) fun x9 =>
  CallT Go.Proofs.Try.prog 119 [.agg #[], .slice (sliceA (sliceA p_5p ((mulI .i64 i_7 16).toNat) p_5c 1) 8 (p_5c - ((mulI .i64 i_7 16).toNat)) 1) ((((mulI .i64 (addI .i64 i_7 1) 16).toNat) - ((mulI .i64 i_7 16).toNat)) - 8) ((p_5c - ((mulI .i64 i_7 16).toNat)) - 8)] (.s (.one (.int .u64))) fun x10 =>
  CallT Go.Proofs.Try.prog 121 [.pointer d_4, .int .u64 x9, .int .u64 x10] (.tup []) <|
  again8 d_4 p_5p p_5l p_5c nblocks_6 (addI .i64 i_7 1)) (
  k (.tuple #[]))
theorem F117_L1_rule {k : Value → W} (I : Option Addr → Option Addr → Nat → Nat → Int → Int → W) (μ : Option Addr → Option Addr → Nat → Nat → Int → Int → World → Nat)
  (hr : ∀ (d_4 : Option Addr) (p_5p : Option Addr) (p_5l : Nat) (p_5c : Nat) (nblocks_6 : Int) (i_7 : Int) (w : World), I d_4 p_5p p_5l p_5c nblocks_6 i_7 w → F117_L1 k (fun d_4' p_5p' p_5l' p_5c' nblocks_6' i_7' w' => I d_4' p_5p' p_5l' p_5c' nblocks_6' i_7' w' ∧ μ d_4' p_5p' p_5l' p_5c' nblocks_6' i_7' w' < μ d_4 p_5p p_5l p_5c nblocks_6 i_7 w) d_4 p_5p p_5l p_5c nblocks_6 i_7 w)
  {w : World} {d_4 : Option Addr} {p_5p : Option Addr} {p_5l : Nat} {p_5c : Nat} {nblocks_6 : Int} {i_7 : Int} (h : I d_4 p_5p p_5l p_5c nblocks_6 i_7 w) : Loop [.ptr, .slice, (.int .i64), (.int .i64)] (F117_L1 k) d_4 p_5p p_5l p_5c nblocks_6 i_7 w :=
  Loop_intro (ts := [.ptr, .slice, (.int .i64), (.int .i64)]) (s := (d_4, (p_5p, p_5l, p_5c), nblocks_6, i_7, ())) (fun s w => I s.1 s.2.1.1 s.2.1.2.1 s.2.1.2.2 s.2.2.1 s.2.2.2.1 w) (fun s w => μ s.1 s.2.1.1 s.2.1.2.1 s.2.1.2.2 s.2.2.1 s.2.2.2.1 w) h (fun s w h => hr s.1 s.2.1.1 s.2.1.2.1 s.2.1.2.2 s.2.2.1 s.2.2.2.1 w h)
def F117 (k : Value → W) (d_1 : Option Addr) (p_2p : Option Addr) (p_2l : Nat) (p_2c : Nat) : W :=
 Req (16 ≠ (0 : Int)) <|
 Bind (quoI .i64 ((p_2l : Nat) : Int) 16 : Int) fun nblocks_3 =>
 Loop [.ptr, .slice, (.int .i64), (.int .i64)] (F117_L1 k) d_1 p_2p p_2l p_2c nblocks_3 0
theorem F117_eq (k : Value → W) (d_1 : Option Addr) (p_2p : Option Addr) (p_2l : Nat) (p_2c : Nat) : compF Go.Proofs.Try.prog Go.Proofs.Try.f117 [(2, [(0, .ptr), (1, .slice), (4, (.int .i64)), (5, (.int .i64))])] (Go.Proofs.Try.f117.body.getD .skip) [.pointer d_1, .slice p_2p p_2l p_2c] k = F117 k d_1 p_2p p_2l p_2c := by kernel_rfl
theorem F117_calls {d_1 : Option Addr} {p_2p : Option Addr} {p_2l : Nat} {p_2c : Nat} {w : World} {R : Ending → World → Prop} (h : F117 (fun v w => R (.returned v) w) d_1 p_2p p_2l p_2c w) : Calls Go.Proofs.Try.prog 117 #[.pointer d_1, .slice p_2p p_2l p_2c] w R :=
  calls_of_compF noNum follows [(2, [(0, .ptr), (1, .slice), (4, (.int .i64)), (5, (.int .i64))])] (f := 117) (fn := Go.Proofs.Try.f117) (body := Go.Proofs.Try.f117.body.getD .skip) (args := [.pointer d_1, .slice p_2p p_2l p_2c]) rfl rfl (Nat.le_of_ble_eq_true rfl) ((congrFun (F117_eq _ d_1 p_2p p_2l p_2c) w).mpr h)
theorem F117_call {d_1 : Option Addr} {p_2p : Option Addr} {p_2l : Nat} {p_2c : Nat} {w : World} {g : Fn W (RTy.leaves (.tup []))} (h : F117 (fun v => Back (.tup []) g (.returned v)) d_1 p_2p p_2l p_2c w) : CallT Go.Proofs.Try.prog 117 [.pointer d_1, .slice p_2p p_2l p_2c] (.tup []) g w := F117_calls h

/-! ## bloom.digest128).sum128 -/
def F118_J16 (k : Value → W) (length_145 : Int) (h1_146 : Int) (h2_147 : Int) : W :=
 Bind (xorI .u64 h1_146 length_145 : Int) fun h1_148 =>
 Bind (xorI .u64 h2_147 length_145 : Int) fun h2_149 =>
 Bind (addI .u64 h2_149 (addI .u64 h1_148 h2_149) : Int) fun h2_150 =>
 CallT Go.Proofs.Try.prog 123 [.int .u64 (addI .u64 h1_148 h2_149)] (.s (.one (.int .u64))) fun x151 =>
 CallT Go.Proofs.Try.prog 123 [.int .u64 h2_150] (.s (.one (.int .u64))) fun x152 =>
 Bind (addI .u64 x152 (addI .u64 x151 x152) : Int) fun h2_153 =>
 k (.tuple #[.int .u64 (addI .u64 x151 x152), .int .u64 h2_153])
def F118_J15 (k : Value → W) (length_134 : Int) (tail_135p : Option Addr) (tail_135l : Nat) (tail_135c : Nat) (h1_136 : Int) (h2_137 : Int) (k1_138 : Int) : W :=
 NN tail_135p fun a139 =>
 Req (0 ≤ (0 : Int) ∧ (0 : Int) < ((tail_135l : Nat) : Int)) <|
 LoadT (.int .u8) (a139.add ((0 : Int).toNat)) fun x140 =>
 Bind (xorI .u64 k1_138 (shlI .u64 (IntKind.wrap .u64 x140) 0) : Int) fun k1_141 =>
 Bind (mulI .u64 k1_141 9782798678568883157 : Int) fun k1_142 =>
 CallT Go.Proofs.Try.prog 122 [.int .u64 k1_142, .int .i64 31] (.s (.one (.int .u64))) fun x143 =>
 Bind (mulI .u64 x143 5545529020109919103 : Int) fun k1_144 =>
 F118_J16 k length_134 (xorI .u64 h1_136 k1_144) h2_137
def F118_J14 (k : Value → W) (length_126 : Int) (tail_127p : Option Addr) (tail_127l : Nat) (tail_127c : Nat) (h1_128 : Int) (h2_129 : Int) (k1_130 : Int) : W :=
 NN tail_127p fun a131 =>
 Req (0 ≤ (1 : Int) ∧ (1 : Int) < ((tail_127l : Nat) : Int)) <|
 LoadT (.int .u8) (a131.add ((1 : Int).toNat)) fun x132 =>
 Bind (xorI .u64 k1_130 (shlI .u64 (IntKind.wrap .u64 x132) 8) : Int) fun k1_133 =>
 F118_J15 k length_126 tail_127p tail_127l tail_127c h1_128 h2_129 k1_133
def F118_J13 (k : Value → W) (length_118 : Int) (tail_119p : Option Addr) (tail_119l : Nat) (tail_119c : Nat) (h1_120 : Int) (h2_121 : Int) (k1_122 : Int) : W :=
 NN tail_119p fun a123 =>
 Req (0 ≤ (2 : Int) ∧ (2 : Int) < ((tail_119l : Nat) : Int)) <|
 LoadT (.int .u8) (a123.add ((2 : Int).toNat)) fun x124 =>
 Bind (xorI .u64 k1_122 (shlI .u64 (IntKind.wrap .u64 x124) 16) : Int) fun k1_125 =>
 F118_J14 k length_118 tail_119p tail_119l tail_119c h1_120 h2_121 k1_125
def F118_J12 (k : Value → W) (length_110 : Int) (tail_111p : Option Addr) (tail_111l : Nat) (tail_111c : Nat) (h1_112 : Int) (h2_113 : Int) (k1_114 : Int) : W :=
 NN tail_111p fun a115 =>
 Req (0 ≤ (3 : Int) ∧ (3 : Int) < ((tail_111l : Nat) : Int)) <|
 LoadT (.int .u8) (a115.add ((3 : Int).toNat)) fun x116 =>
 Bind (xorI .u64 k1_114 (shlI .u64 (IntKind.wrap .u64 x116) 24) : Int) fun k1_117 =>
 F118_J13 k length_110 tail_111p tail_111l tail_111c h1_112 h2_113 k1_117
def F118_J11 (k : Value → W) (length_102 : Int) (tail_103p : Option Addr) (tail_103l : Nat) (tail_103c : Nat) (h1_104 : Int) (h2_105 : Int) (k1_106 : Int) : W :=
 NN tail_103p fun a107 =>
 Req (0 ≤ (4 : Int) ∧ (4 : Int) < ((tail_103l : Nat) : Int)) <|
 LoadT (.int .u8) (a107.add ((4 : Int).toNat)) fun x108 =>
 Bind (xorI .u64 k1_106 (shlI .u64 (IntKind.wrap .u64 x108) 32) : Int) fun k1_109 =>
 F118_J12 k length_102 tail_103p tail_103l tail_103c h1_104 h2_105 k1_109
def F118_J10 (k : Value → W) (length_94 : Int) (tail_95p : Option Addr) (tail_95l : Nat) (tail_95c : Nat) (h1_96 : Int) (h2_97 : Int) (k1_98 : Int) : W :=
 NN tail_95p fun a99 =>
 Req (0 ≤ (5 : Int) ∧ (5 : Int) < ((tail_95l : Nat) : Int)) <|
 LoadT (.int .u8) (a99.add ((5 : Int).toNat)) fun x100 =>
 Bind (xorI .u64 k1_98 (shlI .u64 (IntKind.wrap .u64 x100) 40) : Int) fun k1_101 =>
 F118_J11 k length_94 tail_95p tail_95l tail_95c h1_96 h2_97 k1_101
def F118_J9 (k : Value → W) (length_86 : Int) (tail_87p : Option Addr) (tail_87l : Nat) (tail_87c : Nat) (h1_88 : Int) (h2_89 : Int) (k1_90 : Int) : W :=
 NN tail_87p fun a91 =>
 Req (0 ≤ (6 : Int) ∧ (6 : Int) < ((tail_87l : Nat) : Int)) <|
 LoadT (.int .u8) (a91.add ((6 : Int).toNat)) fun x92 =>
 Bind (xorI .u64 k1_90 (shlI .u64 (IntKind.wrap .u64 x92) 48) : Int) fun k1_93 =>
 F118_J10 k length_86 tail_87p tail_87l tail_87c h1_88 h2_89 k1_93
def F118_J8 (k : Value → W) (length_78 : Int) (tail_79p : Option Addr) (tail_79l : Nat) (tail_79c : Nat) (h1_80 : Int) (h2_81 : Int) (k1_82 : Int) : W :=
 NN tail_79p fun a83 =>
 Req (0 ≤ (7 : Int) ∧ (7 : Int) < ((tail_79l : Nat) : Int)) <|
 LoadT (.int .u8) (a83.add ((7 : Int).toNat)) fun x84 =>
 Bind (xorI .u64 k1_82 (shlI .u64 (IntKind.wrap .u64 x84) 56) : Int) fun k1_85 =>
 F118_J9 k length_78 tail_79p tail_79l tail_79c h1_80 h2_81 k1_85
def F118_J7 (k : Value → W) (length_66 : Int) (tail_67p : Option Addr) (tail_67l : Nat) (tail_67c : Nat) (h1_68 : Int) (h2_69 : Int) (k1_70 : Int) (k2_71 : Int) : W :=
 NN tail_67p fun a72 =>
 Req (0 ≤ (8 : Int) ∧ (8 : Int) < ((tail_67l : Nat) : Int)) <|
 LoadT (.int .u8) (a72.add ((8 : Int).toNat)) fun x73 =>
 Bind (xorI .u64 k2_71 (shlI .u64 (IntKind.wrap .u64 x73) 0) : Int) fun k2_74 =>
 Bind (mulI .u64 k2_74 5545529020109919103 : Int) fun k2_75 =>
 CallT Go.Proofs.Try.prog 122 [.int .u64 k2_75, .int .i64 33] (.s (.one (.int .u64))) fun x76 =>
 Bind (mulI .u64 x76 9782798678568883157 : Int) fun k2_77 =>
 F118_J8 k length_66 tail_67p tail_67l tail_67c h1_68 (xorI .u64 h2_69 k2_77) k1_70
def F118_J6 (k : Value → W) (length_57 : Int) (tail_58p : Option Addr) (tail_58l : Nat) (tail_58c : Nat) (h1_59 : Int) (h2_60 : Int) (k1_61 : Int) (k2_62 : Int) : W :=
 NN tail_58p fun a63 =>
 Req (0 ≤ (9 : Int) ∧ (9 : Int) < ((tail_58l : Nat) : Int)) <|
 LoadT (.int .u8) (a63.add ((9 : Int).toNat)) fun x64 =>
 Bind (xorI .u64 k2_62 (shlI .u64 (IntKind.wrap .u64 x64) 8) : Int) fun k2_65 =>
 F118_J7 k length_57 tail_58p tail_58l tail_58c h1_59 h2_60 k1_61 k2_65
def F118_J5 (k : Value → W) (length_48 : Int) (tail_49p : Option Addr) (tail_49l : Nat) (tail_49c : Nat) (h1_50 : Int) (h2_51 : Int) (k1_52 : Int) (k2_53 : Int) : W :=
 NN tail_49p fun a54 =>
 Req (0 ≤ (10 : Int) ∧ (10 : Int) < ((tail_49l : Nat) : Int)) <|
 LoadT (.int .u8) (a54.add ((10 : Int).toNat)) fun x55 =>
 Bind (xorI .u64 k2_53 (shlI .u64 (IntKind.wrap .u64 x55) 16) : Int) fun k2_56 =>
 F118_J6 k length_48 tail_49p tail_49l tail_49c h1_50 h2_51 k1_52 k2_56
def F118_J4 (k : Value → W) (length_39 : Int) (tail_40p : Option Addr) (tail_40l : Nat) (tail_40c : Nat) (h1_41 : Int) (h2_42 : Int) (k1_43 : Int) (k2_44 : Int) : W :=
 NN tail_40p fun a45 =>
 Req (0 ≤ (11 : Int) ∧ (11 : Int) < ((tail_40l : Nat) : Int)) <|
 LoadT (.int .u8) (a45.add ((11 : Int).toNat)) fun x46 =>
 Bind (xorI .u64 k2_44 (shlI .u64 (IntKind.wrap .u64 x46) 24) : Int) fun k2_47 =>
 F118_J5 k length_39 tail_40p tail_40l tail_40c h1_41 h2_42 k1_43 k2_47
def F118_J3 (k : Value → W) (length_30 : Int) (tail_31p : Option Addr) (tail_31l : Nat) (tail_31c : Nat) (h1_32 : Int) (h2_33 : Int) (k1_34 : Int) (k2_35 : Int) : W :=
 NN tail_31p fun a36 =>
 Req (0 ≤ (12 : Int) ∧ (12 : Int) < ((tail_31l : Nat) : Int)) <|
 LoadT (.int .u8) (a36.add ((12 : Int).toNat)) fun x37 =>
 Bind (xorI .u64 k2_35 (shlI .u64 (IntKind.wrap .u64 x37) 32) : Int) fun k2_38 =>
 F118_J4 k length_30 tail_31p tail_31l tail_31c h1_32 h2_33 k1_34 k2_38
def F118_J2 (k : Value → W) (length_21 : Int) (tail_22p : Option Addr) (tail_22l : Nat) (tail_22c : Nat) (h1_23 : Int) (h2_24 : Int) (k1_25 : Int) (k2_26 : Int) : W :=
 NN tail_22p fun a27 =>
 Req (0 ≤ (13 : Int) ∧ (13 : Int) < ((tail_22l : Nat) : Int)) <|
 LoadT (.int .u8) (a27.add ((13 : Int).toNat)) fun x28 =>
 Bind (xorI .u64 k2_26 (shlI .u64 (IntKind.wrap .u64 x28) 40) : Int) fun k2_29 =>
 F118_J3 k length_21 tail_22p tail_22l tail_22c h1_23 h2_24 k1_25 k2_29
def F118_J1 (k : Value → W) (length_11 : Int) (tail_12p : Option Addr) (tail_12l : Nat) (tail_12c : Nat) (h1_13 : Int) (h2_14 : Int) (k1_15 : Int) (k2_16 : Int) : W :=
 Bind ((andI .i64 ((tail_12l : Nat) : Int) 15) == 15) fun y17 =>
 BIf y17 (
  NN tail_12p fun a18 =>
  Req (0 ≤ (14 : Int) ∧ (14 : Int) < ((tail_12l : Nat) : Int)) <|
  LoadT (.int .u8) (a18.add ((14 : Int).toNat)) fun x19 =>
  Bind (xorI .u64 k2_16 (shlI .u64 (IntKind.wrap .u64 x19) 48) : Int) fun k2_20 =>
  F118_J2 k length_11 tail_12p tail_12l tail_12c h1_13 h2_14 k1_15 k2_20) (
  Bind ((andI .i64 ((tail_12l : Nat) : Int) 15) == 14) fun y154 =>
  BIf y154 (
   F118_J2 k length_11 tail_12p tail_12l tail_12c h1_13 h2_14 k1_15 k2_16) (
   Bind ((andI .i64 ((tail_12l : Nat) : Int) 15) == 13) fun y155 =>
   BIf y155 (
    F118_J3 k length_11 tail_12p tail_12l tail_12c h1_13 h2_14 k1_15 k2_16) (
    Bind ((andI .i64 ((tail_12l : Nat) : Int) 15) == 12) fun y156 =>
    BIf y156 (
     F118_J4 k length_11 tail_12p tail_12l tail_12c h1_13 h2_14 k1_15 k2_16) (
     Bind ((andI .i64 ((tail_12l : Nat) : Int) 15) == 11) fun y157 =>
     BIf y157 (
      F118_J5 k length_11 tail_12p tail_12l tail_12c h1_13 h2_14 k1_15 k2_16) (
      Bind ((andI .i64 ((tail_12l : Nat) : Int) 15) == 10) fun y158 =>
      BIf y158 (
       F118_J6 k length_11 tail_12p tail_12l tail_12c h1_13 h2_14 k1_15 k2_16) (
       Bind ((andI .i64 ((tail_12l : Nat) : Int) 15) == 9) fun y159 =>
       BIf y159 (
        F118_J7 k length_11 tail_12p tail_12l tail_12c h1_13 h2_14 k1_15 k2_16) (
        Bind ((andI .i64 ((tail_12l : Nat) : Int) 15) == 8) fun y160 =>
        BIf y160 (
         F118_J8 k length_11 tail_12p tail_12l tail_12c h1_13 h2_14 k1_15) (
         Bind ((andI .i64 ((tail_12l : Nat) : Int) 15) == 7) fun y161 =>
         BIf y161 (
          F118_J9 k length_11 tail_12p tail_12l tail_12c h1_13 h2_14 k1_15) (
          Bind ((andI .i64 ((tail_12l : Nat) : Int) 15) == 6) fun y162 =>
          BIf y162 (
           F118_J10 k length_11 tail_12p tail_12l tail_12c h1_13 h2_14 k1_15) (
           Bind ((andI .i64 ((tail_12l : Nat) : Int) 15) == 5) fun y163 =>
           BIf y163 (
            F118_J11 k length_11 tail_12p tail_12l tail_12c h1_13 h2_14 k1_15) (
            Bind ((andI .i64 ((tail_12l : Nat) : Int) 15) == 4) fun y164 =>
            BIf y164 (
             F118_J12 k length_11 tail_12p tail_12l tail_12c h1_13 h2_14 k1_15) (
             Bind ((andI .i64 ((tail_12l : Nat) : Int) 15) == 3) fun y165 =>
             BIf y165 (
              F118_J13 k length_11 tail_12p tail_12l tail_12c h1_13 h2_14 k1_15) (
              Bind ((andI .i64 ((tail_12l : Nat) : Int) 15) == 2) fun y166 =>
              BIf y166 (
               F118_J14 k length_11 tail_12p tail_12l tail_12c h1_13 h2_14 k1_15) (
               Bind ((andI .i64 ((tail_12l : Nat) : Int) 15) == 1) fun y167 =>
               BIf y167 (
                F118_J15 k length_11 tail_12p tail_12l tail_12c h1_13 h2_14 k1_15) (
                F118_J16 k length_11 h1_13 h2_14)))))))))))))))
def F118 (k : Value → W) (d_1 : Option Addr) (pad_tail_2 : Bool) (length_3 : Int) (tail_4p : Option Addr) (tail_4l : Nat) (tail_4c : Nat) : W :=
 Drw <|
 NN d_1 fun a5 =>
 LoadT (.int .u64) a5 fun x6 =>
 NN d_1 fun a7 =>
 LoadT (.int .u64) (a7.add 1) fun x8 =>
 BIf pad_tail_2 (
  Bind ((andI .i64 (addI .i64 ((tail_4l : Nat) : Int) 1) 15) == 15) fun y9 =>
  BIf y9 (
   Bind (xorI .u64 0 281474976710656 : Int) fun k2_10 =>
   F118_J1 k length_3 tail_4p tail_4l tail_4c x6 x8 0 k2_10) (
   Bind ((andI .i64 (addI .i64 ((tail_4l : Nat) : Int) 1) 15) == 14) fun y168 =>
   BIf y168 (
    Bind (xorI .u64 0 1099511627776 : Int) fun k2_169 =>
    F118_J1 k length_3 tail_4p tail_4l tail_4c x6 x8 0 k2_169) (
    Bind ((andI .i64 (addI .i64 ((tail_4l : Nat) : Int) 1) 15) == 13) fun y170 =>
    BIf y170 (
     F118_J1 k length_3 tail_4p tail_4l tail_4c x6 x8 0 (xorI .u64 0 4294967296)) (
     Bind ((andI .i64 (addI .i64 ((tail_4l : Nat) : Int) 1) 15) == 12) fun y171 =>
     BIf y171 (
      F118_J1 k length_3 tail_4p tail_4l tail_4c x6 x8 0 (xorI .u64 0 16777216)) (
      Bind ((andI .i64 (addI .i64 ((tail_4l : Nat) : Int) 1) 15) == 11) fun y172 =>
      BIf y172 (
       F118_J1 k length_3 tail_4p tail_4l tail_4c x6 x8 0 (xorI .u64 0 65536)) (
       Bind ((andI .i64 (addI .i64 ((tail_4l : Nat) : Int) 1) 15) == 10) fun y173 =>
       BIf y173 (
        F118_J1 k length_3 tail_4p tail_4l tail_4c x6 x8 0 (xorI .u64 0 256)) (
        Bind ((andI .i64 (addI .i64 ((tail_4l : Nat) : Int) 1) 15) == 9) fun y174 =>
        BIf y174 (
         Bind (mulI .u64 (xorI .u64 0 1) 5545529020109919103 : Int) fun k2_175 =>
         CallT Go.Proofs.Try.prog 122 [.int .u64 k2_175, .int .i64 33] (.s (.one (.int .u64))) fun x176 =>
         Bind (mulI .u64 x176 9782798678568883157 : Int) fun k2_177 =>
         F118_J1 k length_3 tail_4p tail_4l tail_4c x6 (xorI .u64 x8 k2_177) 0 k2_177) (
         Bind ((andI .i64 (addI .i64 ((tail_4l : Nat) : Int) 1) 15) == 8) fun y178 =>
         BIf y178 (
          Bind (xorI .u64 0 72057594037927936 : Int) fun k1_179 =>
          F118_J1 k length_3 tail_4p tail_4l tail_4c x6 x8 k1_179 0) (
          Bind ((andI .i64 (addI .i64 ((tail_4l : Nat) : Int) 1) 15) == 7) fun y180 =>
          BIf y180 (
           Bind (xorI .u64 0 281474976710656 : Int) fun k1_181 =>
           F118_J1 k length_3 tail_4p tail_4l tail_4c x6 x8 k1_181 0) (
           Bind ((andI .i64 (addI .i64 ((tail_4l : Nat) : Int) 1) 15) == 6) fun y182 =>
           BIf y182 (
            Bind (xorI .u64 0 1099511627776 : Int) fun k1_183 =>
            F118_J1 k length_3 tail_4p tail_4l tail_4c x6 x8 k1_183 0) (
            Bind ((andI .i64 (addI .i64 ((tail_4l : Nat) : Int) 1) 15) == 5) fun y184 =>
            BIf y184 (
             F118_J1 k length_3 tail_4p tail_4l tail_4c x6 x8 (xorI .u64 0 4294967296) 0) (
             Bind ((andI .i64 (addI .i64 ((tail_4l : Nat) : Int) 1) 15) == 4) fun y185 =>
             BIf y185 (
              F118_J1 k length_3 tail_4p tail_4l tail_4c x6 x8 (xorI .u64 0 16777216) 0) (
              Bind ((andI .i64 (addI .i64 ((tail_4l : Nat) : Int) 1) 15) == 3) fun y186 =>
              BIf y186 (
               F118_J1 k length_3 tail_4p tail_4l tail_4c x6 x8 (xorI .u64 0 65536) 0) (
               Bind ((andI .i64 (addI .i64 ((tail_4l : Nat) : Int) 1) 15) == 2) fun y187 =>
               BIf y187 (
                F118_J1 k length_3 tail_4p tail_4l tail_4c x6 x8 (xorI .u64 0 256) 0) (
                Bind ((andI .i64 (addI .i64 ((tail_4l : Nat) : Int) 1) 15) == 1) fun y188 =>
                BIf y188 (
                 Bind (mulI .u64 (xorI .u64 0 1) 9782798678568883157 : Int) fun k1_189 =>
                 CallT Go.Proofs.Try.prog 122 [.int .u64 k1_189, .int .i64 31] (.s (.one (.int .u64))) fun x190 =>
                 Bind (mulI .u64 x190 5545529020109919103 : Int) fun k1_191 =>
                 F118_J1 k length_3 tail_4p tail_4l tail_4c (xorI .u64 x6 k1_191) x8 k1_191 0) (
                 F118_J1 k length_3 tail_4p tail_4l tail_4c x6 x8 0 0)))))))))))))))) (
  F118_J1 k length_3 tail_4p tail_4l tail_4c x6 x8 0 0)
theorem F118_eq (k : Value → W) (d_1 : Option Addr) (pad_tail_2 : Bool) (length_3 : Int) (tail_4p : Option Addr) (tail_4l : Nat) (tail_4c : Nat) : compF Go.Proofs.Try.prog Go.Proofs.Try.f118 [] (Go.Proofs.Try.f118.body.getD .skip) [.pointer d_1, .bool pad_tail_2, .int .u64 length_3, .slice tail_4p tail_4l tail_4c] k = F118 k d_1 pad_tail_2 length_3 tail_4p tail_4l tail_4c := by kernel_rfl
theorem F118_calls {d_1 : Option Addr} {pad_tail_2 : Bool} {length_3 : Int} {tail_4p : Option Addr} {tail_4l : Nat} {tail_4c : Nat} {w : World} {R : Ending → World → Prop} (h : F118 (fun v w => R (.returned v) w) d_1 pad_tail_2 length_3 tail_4p tail_4l tail_4c w) : Calls Go.Proofs.Try.prog 118 #[.pointer d_1, .bool pad_tail_2, .int .u64 length_3, .slice tail_4p tail_4l tail_4c] w R :=
  calls_of_compF noNum follows [] (f := 118) (fn := Go.Proofs.Try.f118) (body := Go.Proofs.Try.f118.body.getD .skip) (args := [.pointer d_1, .bool pad_tail_2, .int .u64 length_3, .slice tail_4p tail_4l tail_4c]) rfl rfl (Nat.le_of_ble_eq_true rfl) ((congrFun (F118_eq _ d_1 pad_tail_2 length_3 tail_4p tail_4l tail_4c) w).mpr h)
theorem F118_call {d_1 : Option Addr} {pad_tail_2 : Bool} {length_3 : Int} {tail_4p : Option Addr} {tail_4l : Nat} {tail_4c : Nat} {w : World} {g : Fn W (RTy.leaves (.tup [(.one (.int .u64)), (.one (.int .u64))]))} (h : F118 (fun v => Back (.tup [(.one (.int .u64)), (.one (.int .u64))]) g (.returned v)) d_1 pad_tail_2 length_3 tail_4p tail_4l tail_4c w) : CallT Go.Proofs.Try.prog 118 [.pointer d_1, .bool pad_tail_2, .int .u64 length_3, .slice tail_4p tail_4l tail_4c] (.tup [(.one (.int .u64)), (.one (.int .u64))]) g w := F118_calls h

/-! ## binary.littleEndian).Uint32 -/
def F120 (k : Value → W) (b_1p : Option Addr) (b_1l : Nat) (b_1c : Nat) : W :=
 New [] 127 fun n2 =>
 NN b_1p fun a3 =>
 Req (0 ≤ (3 : Int) ∧ (3 : Int) < ((b_1l : Nat) : Int)) <|
 LoadT (.int .u8) (a3.add ((3 : Int).toNat)) fun x4 =>
 Drw <|
 NN b_1p fun a5 =>
 Req (0 ≤ (0 : Int) ∧ (0 : Int) < ((b_1l : Nat) : Int)) <|
 LoadT (.int .u8) (a5.add ((0 : Int).toNat)) fun x6 =>
 NN b_1p fun a7 =>
 Req (0 ≤ (1 : Int) ∧ (1 : Int) < ((b_1l : Nat) : Int)) <|
 LoadT (.int .u8) (a7.add ((1 : Int).toNat)) fun x8 =>
 NN b_1p fun a9 =>
 Req (0 ≤ (2 : Int) ∧ (2 : Int) < ((b_1l : Nat) : Int)) <|
 LoadT (.int .u8) (a9.add ((2 : Int).toNat)) fun x10 =>
 NN b_1p fun a11 =>
 Req (0 ≤ (3 : Int) ∧ (3 : Int) < ((b_1l : Nat) : Int)) <|
 LoadT (.int .u8) (a11.add ((3 : Int).toNat)) fun x12 =>
 Bind (orI .u32 (orI .u32 (orI .u32 (IntKind.wrap .u32 x6) (shlI .u32 (IntKind.wrap .u32 x8) 8)) (shlI .u32 (IntKind.wrap .u32 x10) 16)) (shlI .u32 (IntKind.wrap .u32 x12) 24) : Int) fun y13 =>
 k (.int .u32 y13)
theorem F120_eq (k : Value → W) (b_1p : Option Addr) (b_1l : Nat) (b_1c : Nat) : compF Go.Proofs.Try.prog Go.Proofs.Try.f120 [] (Go.Proofs.Try.f120.body.getD .skip) [.agg #[], .slice b_1p b_1l b_1c] k = F120 k b_1p b_1l b_1c := by kernel_rfl
theorem F120_calls {b_1p : Option Addr} {b_1l : Nat} {b_1c : Nat} {w : World} {R : Ending → World → Prop} (h : F120 (fun v w => R (.returned v) w) b_1p b_1l b_1c w) : Calls Go.Proofs.Try.prog 120 #[.agg #[], .slice b_1p b_1l b_1c] w R :=
  calls_of_compF noNum follows [] (f := 120) (fn := Go.Proofs.Try.f120) (body := Go.Proofs.Try.f120.body.getD .skip) (args := [.agg #[], .slice b_1p b_1l b_1c]) rfl rfl (Nat.le_of_ble_eq_true rfl) ((congrFun (F120_eq _ b_1p b_1l b_1c) w).mpr h)
theorem F120_call {b_1p : Option Addr} {b_1l : Nat} {b_1c : Nat} {w : World} {g : Fn W (RTy.leaves (.s (.one (.int .u32))))} (h : F120 (fun v => Back (.s (.one (.int .u32))) g (.returned v)) b_1p b_1l b_1c w) : CallT Go.Proofs.Try.prog 120 [.agg #[], .slice b_1p b_1l b_1c] (.s (.one (.int .u32))) g w := F120_calls h

/-! ## bloom.digest128).sum256 -/
def F116_J1 (k : Value → W) (hash1_20 : Int) (hash2_21 : Int) (hash3_22 : Int) (hash4_23 : Int) : W :=
 k (.tuple #[.int .u64 hash1_20, .int .u64 hash2_21, .int .u64 hash3_22, .int .u64 hash4_23])
def F116 (k : Value → W) (d_1 : Option Addr) (data_2p : Option Addr) (data_2l : Nat) (data_2c : Nat) : W :=
 NN d_1 fun a3 =>
 Store1 a3 (.int .u64 0) <|
 NN d_1 fun a4 =>
 Store1 (a4.add 1) (.int .u64 0) <|
 CallT Go.Proofs.Try.prog 117 [.pointer d_1, .slice data_2p data_2l data_2c] (.tup []) <|
 Bind (IntKind.wrap .u64 ((data_2l : Nat) : Int) : Int) fun length_5 =>
 Req (16 ≠ (0 : Int)) <|
 Req (0 ≤ subI .u64 length_5 (remI length_5 16) ∧ subI .u64 length_5 (remI length_5 16) ≤ ((data_2l : Nat) : Int)) <|
 CallT Go.Proofs.Try.prog 118 [.pointer d_1, .bool false, .int .u64 length_5, .slice (sliceA data_2p ((subI .u64 length_5 (remI length_5 16)).toNat) data_2c 1) (data_2l - ((subI .u64 length_5 (remI length_5 16)).toNat)) (data_2c - ((subI .u64 length_5 (remI length_5 16)).toNat))] (.tup [(.one (.int .u64)), (.one (.int .u64))]) fun x6 x7 =>
 BIf ((addI .u64 (remI length_5 16) 1) == 16) (
  Drw <|
  Req (0 ≤ (8 : Int) ∧ (8 : Int) ≤ ((data_2c - ((subI .u64 length_5 (remI length_5 16)).toNat) : Nat) : Int)) <|
  CallT Go.Proofs.Try.prog 119 [.agg #[], .slice (sliceA (sliceA data_2p ((subI .u64 length_5 (remI length_5 16)).toNat) data_2c 1) 0 (data_2c - ((subI .u64 length_5 (remI length_5 16)).toNat)) 1) (8 - 0) ((data_2c - ((subI .u64 length_5 (remI length_5 16)).toNat)) - 0)] (.s (.one (.int .u64))) fun x8 =>
  Drw <|
  Req (0 ≤ (12 : Int) ∧ (12 : Int) ≤ ((data_2c - ((subI .u64 length_5 (remI length_5 16)).toNat) : Nat) : Int)) <|
  Req (0 ≤ (8 : Int) ∧ (8 : Int) ≤ ((12 : Nat) : Int)) <|
  CallT Go.Proofs.Try.prog 120 [.agg #[], .slice (sliceA (sliceA data_2p ((subI .u64 length_5 (remI length_5 16)).toNat) data_2c 1) 8 (data_2c - ((subI .u64 length_5 (remI length_5 16)).toNat)) 1) (12 - 8) ((data_2c - ((subI .u64 length_5 (remI length_5 16)).toNat)) - 8)] (.s (.one (.int .u32))) fun x9 =>
  Drw <|
  NN (sliceA data_2p ((subI .u64 length_5 (remI length_5 16)).toNat) data_2c 1) fun a10 =>
  Req (0 ≤ (12 : Int) ∧ (12 : Int) < ((data_2l - ((subI .u64 length_5 (remI length_5 16)).toNat) : Nat) : Int)) <|
  LoadT (.int .u8) (a10.add ((12 : Int).toNat)) fun x11 =>
  NN (sliceA data_2p ((subI .u64 length_5 (remI length_5 16)).toNat) data_2c 1) fun a12 =>
  Req (0 ≤ (13 : Int) ∧ (13 : Int) < ((data_2l - ((subI .u64 length_5 (remI length_5 16)).toNat) : Nat) : Int)) <|
  LoadT (.int .u8) (a12.add ((13 : Int).toNat)) fun x13 =>
  NN (sliceA data_2p ((subI .u64 length_5 (remI length_5 16)).toNat) data_2c 1) fun a14 =>
  Req (0 ≤ (14 : Int) ∧ (14 : Int) < ((data_2l - ((subI .u64 length_5 (remI length_5 16)).toNat) : Nat) : Int)) <|
  LoadT (.int .u8) (a14.add ((14 : Int).toNat)) fun x15 =>
  Bind (orI .u64 (orI .u64 (orI .u64 (IntKind.wrap .u64 x9) (shlI .u64 (IntKind.wrap .u64 x11) 32)) (shlI .u64 (IntKind.wrap .u64 x13) 40)) (shlI .u64 (IntKind.wrap .u64 x15) 48) : Int) fun word2_16 =>
  Bind (orI .u64 word2_16 72057594037927936 : Int) fun word2_17 =>
  CallT Go.Proofs.Try.prog 121 [.pointer d_1, .int .u64 x8, .int .u64 word2_17] (.tup []) <|
  Req (0 ≤ length_5 ∧ length_5 ≤ ((data_2l : Nat) : Int)) <|
  CallT Go.Proofs.Try.prog 118 [.pointer d_1, .bool false, .int .u64 (addI .u64 length_5 1), .slice (sliceA data_2p length_5.toNat data_2c 1) (data_2l - length_5.toNat) (data_2c - length_5.toNat)] (.tup [(.one (.int .u64)), (.one (.int .u64))]) fun x18 x19 =>
  F116_J1 k x6 x7 x18 x19) (
  CallT Go.Proofs.Try.prog 118 [.pointer d_1, .bool true, .int .u64 (addI .u64 length_5 1), .slice (sliceA data_2p ((subI .u64 length_5 (remI length_5 16)).toNat) data_2c 1) (data_2l - ((subI .u64 length_5 (remI length_5 16)).toNat)) (data_2c - ((subI .u64 length_5 (remI length_5 16)).toNat))] (.tup [(.one (.int .u64)), (.one (.int .u64))]) fun x24 x25 =>
  F116_J1 k x6 x7 x24 x25)
theorem F116_eq (k : Value → W) (d_1 : Option Addr) (data_2p : Option Addr) (data_2l : Nat) (data_2c : Nat) : compF Go.Proofs.Try.prog Go.Proofs.Try.f116 [] (Go.Proofs.Try.f116.body.getD .skip) [.pointer d_1, .slice data_2p data_2l data_2c] k = F116 k d_1 data_2p data_2l data_2c := by kernel_rfl
theorem F116_calls {d_1 : Option Addr} {data_2p : Option Addr} {data_2l : Nat} {data_2c : Nat} {w : World} {R : Ending → World → Prop} (h : F116 (fun v w => R (.returned v) w) d_1 data_2p data_2l data_2c w) : Calls Go.Proofs.Try.prog 116 #[.pointer d_1, .slice data_2p data_2l data_2c] w R :=
  calls_of_compF noNum follows [] (f := 116) (fn := Go.Proofs.Try.f116) (body := Go.Proofs.Try.f116.body.getD .skip) (args := [.pointer d_1, .slice data_2p data_2l data_2c]) rfl rfl (Nat.le_of_ble_eq_true rfl) ((congrFun (F116_eq _ d_1 data_2p data_2l data_2c) w).mpr h)
theorem F116_call {d_1 : Option Addr} {data_2p : Option Addr} {data_2l : Nat} {data_2c : Nat} {w : World} {g : Fn W (RTy.leaves (.tup [(.one (.int .u64)), (.one (.int .u64)), (.one (.int .u64)), (.one (.int .u64))]))} (h : F116 (fun v => Back (.tup [(.one (.int .u64)), (.one (.int .u64)), (.one (.int .u64)), (.one (.int .u64))]) g (.returned v)) d_1 data_2p data_2l data_2c w) : CallT Go.Proofs.Try.prog 116 [.pointer d_1, .slice data_2p data_2l data_2c] (.tup [(.one (.int .u64)), (.one (.int .u64)), (.one (.int .u64)), (.one (.int .u64))]) g w := F116_calls h

/-! ## bloom.baseHashes -/
def F101 (k : Value → W) (data_1p : Option Addr) (data_1l : Nat) (data_1c : Nat) : W :=
 New [.int .u64 0, .int .u64 0, .int .u64 0, .int .u64 0] 103 fun n2 =>
 New [.int .u64 0, .int .u64 0] 116 fun n3 =>
 CallT Go.Proofs.Try.prog 116 [.pointer (some ⟨n3, 0, none⟩), .slice data_1p data_1l data_1c] (.tup [(.one (.int .u64)), (.one (.int .u64)), (.one (.int .u64)), (.one (.int .u64))]) fun x4 x5 x6 x7 =>
 Store1 ⟨n2, 0, none⟩ (.int .u64 x4) <|
 Store1 ⟨n2, 1, none⟩ (.int .u64 x5) <|
 Store1 ⟨n2, 2, none⟩ (.int .u64 x6) <|
 Store1 ⟨n2, 3, none⟩ (.int .u64 x7) <|
 LoadT (.int .u64) ⟨n2, 0, none⟩ fun x8 =>
 LoadT (.int .u64) ⟨n2, 1, none⟩ fun x9 =>
 LoadT (.int .u64) ⟨n2, 2, none⟩ fun x10 =>
 LoadT (.int .u64) ⟨n2, 3, none⟩ fun x11 =>
 k (.agg #[.int .u64 x8, .int .u64 x9, .int .u64 x10, .int .u64 x11])
theorem F101_eq (k : Value → W) (data_1p : Option Addr) (data_1l : Nat) (data_1c : Nat) : compF Go.Proofs.Try.prog Go.Proofs.Try.f101 [] (Go.Proofs.Try.f101.body.getD .skip) [.slice data_1p data_1l data_1c] k = F101 k data_1p data_1l data_1c := by kernel_rfl
theorem F101_calls {data_1p : Option Addr} {data_1l : Nat} {data_1c : Nat} {w : World} {R : Ending → World → Prop} (h : F101 (fun v w => R (.returned v) w) data_1p data_1l data_1c w) : Calls Go.Proofs.Try.prog 101 #[.slice data_1p data_1l data_1c] w R :=
  calls_of_compF noNum follows [] (f := 101) (fn := Go.Proofs.Try.f101) (body := Go.Proofs.Try.f101.body.getD .skip) (args := [.slice data_1p data_1l data_1c]) rfl rfl (Nat.le_of_ble_eq_true rfl) ((congrFun (F101_eq _ data_1p data_1l data_1c) w).mpr h)
theorem F101_call {data_1p : Option Addr} {data_1l : Nat} {data_1c : Nat} {w : World} {g : Fn W (RTy.leaves (.s (.agg [(.int .u64), (.int .u64), (.int .u64), (.int .u64)])))} (h : F101 (fun v => Back (.s (.agg [(.int .u64), (.int .u64), (.int .u64), (.int .u64)])) g (.returned v)) data_1p data_1l data_1c w) : CallT Go.Proofs.Try.prog 101 [.slice data_1p data_1l data_1c] (.s (.agg [(.int .u64), (.int .u64), (.int .u64), (.int .u64)])) g w := F101_calls h

/-! ## bloom.location -/
def F102 (k : Value → W) (x1 : Int) (x2 : Int) (x3 : Int) (x4 : Int) (i_5 : Int) : W :=
 New [.int .u64 x1, .int .u64 x2, .int .u64 x3, .int .u64 x4] 103 fun n6 =>
 Drw <|
 Req (2 ≠ (0 : Int)) <|
 Req (0 ≤ remI i_5 2 ∧ remI i_5 2 < (4 : Int)) <|
 LoadT (.int .u64) ((⟨n6, 0, none⟩ : Addr).add ((remI i_5 2).toNat)) fun x7 =>
 Req (2 ≠ (0 : Int)) <|
 Req (4 ≠ (0 : Int)) <|
 Req (2 ≠ (0 : Int)) <|
 Req (0 ≤ addI .u64 2 (quoI .u64 (remI (addI .u64 i_5 (remI i_5 2)) 4) 2) ∧ addI .u64 2 (quoI .u64 (remI (addI .u64 i_5 (remI i_5 2)) 4) 2) < (4 : Int)) <|
 LoadT (.int .u64) ((⟨n6, 0, none⟩ : Addr).add ((addI .u64 2 (quoI .u64 (remI (addI .u64 i_5 (remI i_5 2)) 4) 2)).toNat)) fun x8 =>
 Bind (addI .u64 x7 (mulI .u64 i_5 x8) : Int) fun y9 =>
 k (.int .u64 y9)
theorem F102_eq (k : Value → W) (x1 : Int) (x2 : Int) (x3 : Int) (x4 : Int) (i_5 : Int) : compF Go.Proofs.Try.prog Go.Proofs.Try.f102 [] (Go.Proofs.Try.f102.body.getD .skip) [.agg #[.int .u64 x1, .int .u64 x2, .int .u64 x3, .int .u64 x4], .int .u64 i_5] k = F102 k x1 x2 x3 x4 i_5 := by kernel_rfl
theorem F102_calls {x1 : Int} {x2 : Int} {x3 : Int} {x4 : Int} {i_5 : Int} {w : World} {R : Ending → World → Prop} (h : F102 (fun v w => R (.returned v) w) x1 x2 x3 x4 i_5 w) : Calls Go.Proofs.Try.prog 102 #[.agg #[.int .u64 x1, .int .u64 x2, .int .u64 x3, .int .u64 x4], .int .u64 i_5] w R :=
  calls_of_compF noNum follows [] (f := 102) (fn := Go.Proofs.Try.f102) (body := Go.Proofs.Try.f102.body.getD .skip) (args := [.agg #[.int .u64 x1, .int .u64 x2, .int .u64 x3, .int .u64 x4], .int .u64 i_5]) rfl rfl (Nat.le_of_ble_eq_true rfl) ((congrFun (F102_eq _ x1 x2 x3 x4 i_5) w).mpr h)
theorem F102_call {x1 : Int} {x2 : Int} {x3 : Int} {x4 : Int} {i_5 : Int} {w : World} {g : Fn W (RTy.leaves (.s (.one (.int .u64))))} (h : F102 (fun v => Back (.s (.one (.int .u64))) g (.returned v)) x1 x2 x3 x4 i_5 w) : CallT Go.Proofs.Try.prog 102 [.agg #[.int .u64 x1, .int .u64 x2, .int .u64 x3, .int .u64 x4], .int .u64 i_5] (.s (.one (.int .u64))) g w := F102_calls h

/-! ## bloom.Locations -/
def F74_L1 (k : Value → W) (again13 : Int → Option Addr → Nat → Nat → Addr → Int → W) (k_9 : Int) (locs_10p : Option Addr) (locs_10l : Nat) (locs_10c : Nat) (h_11 : Addr) (i_12 : Int) : W :=
 BIf (decide (i_12 < k_9)) (
  LoadT (.int .u64) (h_11.add 0) fun x14 =>
  LoadT (.int .u64) (h_11.add 1) fun x15 =>
  LoadT (.int .u64) (h_11.add 2) fun x16 =>
  LoadT (.int .u64) (h_11.add 3) fun x17 =>
  CallT Go.Proofs.Try.prog 102 [.agg #[.int .u64 x14, .int .u64 x15, .int .u64 x16, .int .u64 x17], .int .u64 i_12] (.s (.one (.int .u64))) fun x18 =>
  NN locs_10p fun a19 =>
  Req (0 ≤ i_12 ∧ i_12 < ((locs_10l : Nat) : Int)) <|
  Store1 (a19.add i_12.toNat) (.int .u64 x18) <|
  again13 k_9 locs_10p locs_10l locs_10c h_11 (addI .u64 i_12 1)) (
  k (.slice locs_10p locs_10l locs_10c))
theorem F74_L1_rule {k : Value → W} (I : Int → Option Addr → Nat → Nat → Addr → Int → W) (μ : Int → Option Addr → Nat → Nat → Addr → Int → World → Nat)
  (hr : ∀ (k_9 : Int) (locs_10p : Option Addr) (locs_10l : Nat) (locs_10c : Nat) (h_11 : Addr) (i_12 : Int) (w : World), I k_9 locs_10p locs_10l locs_10c h_11 i_12 w → F74_L1 k (fun k_9' locs_10p' locs_10l' locs_10c' h_11' i_12' w' => I k_9' locs_10p' locs_10l' locs_10c' h_11' i_12' w' ∧ μ k_9' locs_10p' locs_10l' locs_10c' h_11' i_12' w' < μ k_9 locs_10p locs_10l locs_10c h_11 i_12 w) k_9 locs_10p locs_10l locs_10c h_11 i_12 w)
  {w : World} {k_9 : Int} {locs_10p : Option Addr} {locs_10l : Nat} {locs_10c : Nat} {h_11 : Addr} {i_12 : Int} (h : I k_9 locs_10p locs_10l locs_10c h_11 i_12 w) : Loop [(.int .u64), .slice, .addr, (.int .u64)] (F74_L1 k) k_9 locs_10p locs_10l locs_10c h_11 i_12 w :=
  Loop_intro (ts := [(.int .u64), .slice, .addr, (.int .u64)]) (s := (k_9, (locs_10p, locs_10l, locs_10c), h_11, i_12, ())) (fun s w => I s.1 s.2.1.1 s.2.1.2.1 s.2.1.2.2 s.2.2.1 s.2.2.2.1 w) (fun s w => μ s.1 s.2.1.1 s.2.1.2.1 s.2.1.2.2 s.2.2.1 s.2.2.2.1 w) h (fun s w h => hr s.1 s.2.1.1 s.2.1.2.1 s.2.1.2.2 s.2.2.1 s.2.2.2.1 w h)
def F74 (k : Value → W) (data_1p : Option Addr) (data_1l : Nat) (data_1c : Nat) (k_2 : Int) : W :=
 RawT Go.Proofs.Try.prog (Instr.makeSlice 43 (.int .u64 k_2) (.int .u64 k_2)) (.s (.one .slice)) fun s3p s3l s3c =>
 CallT Go.Proofs.Try.prog 101 [.slice data_1p data_1l data_1c] (.s (.agg [(.int .u64), (.int .u64), (.int .u64), (.int .u64)])) fun x4 x5 x6 x7 =>
 New [.int .u64 0, .int .u64 0, .int .u64 0, .int .u64 0] 103 fun n8 =>
 Store1 ⟨n8, 0, none⟩ (.int .u64 x4) <|
 Store1 ⟨n8, 1, none⟩ (.int .u64 x5) <|
 Store1 ⟨n8, 2, none⟩ (.int .u64 x6) <|
 Store1 ⟨n8, 3, none⟩ (.int .u64 x7) <|
 Loop [(.int .u64), .slice, .addr, (.int .u64)] (F74_L1 k) k_2 s3p s3l s3c ⟨n8, 0, none⟩ 0
theorem F74_eq (k : Value → W) (data_1p : Option Addr) (data_1l : Nat) (data_1c : Nat) (k_2 : Int) : compF Go.Proofs.Try.prog Go.Proofs.Try.f74 [(4, [(1, (.int .u64)), (5, .slice), (6, .addr), (7, (.int .u64))])] (Go.Proofs.Try.f74.body.getD .skip) [.slice data_1p data_1l data_1c, .int .u64 k_2] k = F74 k data_1p data_1l data_1c k_2 := by kernel_rfl
theorem F74_calls {data_1p : Option Addr} {data_1l : Nat} {data_1c : Nat} {k_2 : Int} {w : World} {R : Ending → World → Prop} (h : F74 (fun v w => R (.returned v) w) data_1p data_1l data_1c k_2 w) : Calls Go.Proofs.Try.prog 74 #[.slice data_1p data_1l data_1c, .int .u64 k_2] w R :=
  calls_of_compF noNum follows [(4, [(1, (.int .u64)), (5, .slice), (6, .addr), (7, (.int .u64))])] (f := 74) (fn := Go.Proofs.Try.f74) (body := Go.Proofs.Try.f74.body.getD .skip) (args := [.slice data_1p data_1l data_1c, .int .u64 k_2]) rfl rfl (Nat.le_of_ble_eq_true rfl) ((congrFun (F74_eq _ data_1p data_1l data_1c k_2) w).mpr h)
theorem F74_call {data_1p : Option Addr} {data_1l : Nat} {data_1c : Nat} {k_2 : Int} {w : World} {g : Fn W (RTy.leaves (.s (.one .slice)))} (h : F74 (fun v => Back (.s (.one .slice)) g (.returned v)) data_1p data_1l data_1c k_2 w) : CallT Go.Proofs.Try.prog 74 [.slice data_1p data_1l data_1c, .int .u64 k_2] (.s (.one .slice)) g w := F74_calls h

/-! ## impl.BLLocations -/
def F39 (k : Value → W) (data_1p : Option Addr) (data_1l : Nat) (data_1c : Nat) (k_2 : Int) : W :=
 CallT Go.Proofs.Try.prog 74 [.slice data_1p data_1l data_1c, .int .u64 k_2] (.s (.one .slice)) fun s3p s3l s3c =>
 k (.slice s3p s3l s3c)
theorem F39_eq (k : Value → W) (data_1p : Option Addr) (data_1l : Nat) (data_1c : Nat) (k_2 : Int) : compF Go.Proofs.Try.prog Go.Proofs.Try.f39 [] (Go.Proofs.Try.f39.body.getD .skip) [.slice data_1p data_1l data_1c, .int .u64 k_2] k = F39 k data_1p data_1l data_1c k_2 := by kernel_rfl
theorem F39_calls {data_1p : Option Addr} {data_1l : Nat} {data_1c : Nat} {k_2 : Int} {w : World} {R : Ending → World → Prop} (h : F39 (fun v w => R (.returned v) w) data_1p data_1l data_1c k_2 w) : Calls Go.Proofs.Try.prog 39 #[.slice data_1p data_1l data_1c, .int .u64 k_2] w R :=
  calls_of_compF noNum follows [] (f := 39) (fn := Go.Proofs.Try.f39) (body := Go.Proofs.Try.f39.body.getD .skip) (args := [.slice data_1p data_1l data_1c, .int .u64 k_2]) rfl rfl (Nat.le_of_ble_eq_true rfl) ((congrFun (F39_eq _ data_1p data_1l data_1c k_2) w).mpr h)
theorem F39_call {data_1p : Option Addr} {data_1l : Nat} {data_1c : Nat} {k_2 : Int} {w : World} {g : Fn W (RTy.leaves (.s (.one .slice)))} (h : F39 (fun v => Back (.s (.one .slice)) g (.returned v)) data_1p data_1l data_1c k_2 w) : CallT Go.Proofs.Try.prog 39 [.slice data_1p data_1l data_1c, .int .u64 k_2] (.s (.one .slice)) g w := F39_calls h

/-! ## impl.words -/
def F85 (k : Value → W) (l_1p : Option Addr) (l_1l : Nat) (l_1c : Nat) : W :=
 NextT Go.Proofs.Try.prog (builtin .append #[43, 43] 43 [true, false].toArray [.slice none 0 0, .slice l_1p l_1l l_1c].toArray) (.s (.one .slice)) fun s2p s2l s2c =>
 k (.slice s2p s2l s2c)
theorem F85_eq (k : Value → W) (l_1p : Option Addr) (l_1l : Nat) (l_1c : Nat) : compF Go.Proofs.Try.prog Go.Proofs.Try.f85 [] (Go.Proofs.Try.f85.body.getD .skip) [.slice l_1p l_1l l_1c] k = F85 k l_1p l_1l l_1c := by kernel_rfl
theorem F85_calls {l_1p : Option Addr} {l_1l : Nat} {l_1c : Nat} {w : World} {R : Ending → World → Prop} (h : F85 (fun v w => R (.returned v) w) l_1p l_1l l_1c w) : Calls Go.Proofs.Try.prog 85 #[.slice l_1p l_1l l_1c] w R :=
  calls_of_compF noNum follows [] (f := 85) (fn := Go.Proofs.Try.f85) (body := Go.Proofs.Try.f85.body.getD .skip) (args := [.slice l_1p l_1l l_1c]) rfl rfl (Nat.le_of_ble_eq_true rfl) ((congrFun (F85_eq _ l_1p l_1l l_1c) w).mpr h)
theorem F85_call {l_1p : Option Addr} {l_1l : Nat} {l_1c : Nat} {w : World} {g : Fn W (RTy.leaves (.s (.one .slice)))} (h : F85 (fun v => Back (.s (.one .slice)) g (.returned v)) l_1p l_1l l_1c w) : CallT Go.Proofs.Try.prog 85 [.slice l_1p l_1l l_1c] (.s (.one .slice)) g w := F85_calls h

/-! ## bitset.FromWithLength -/
def F112 (k : Value → W) (length_1 : Int) (set_2p : Option Addr) (set_2l : Nat) (set_2c : Nat) : W :=
 CallT Go.Proofs.Try.prog 92 [.int .u64 length_1] (.s (.one (.int .i64))) fun x3 =>
 BIf (decide (((set_2l : Nat) : Int) < x3)) (
  bot) (
  New [.int .u64 length_1, .slice set_2p set_2l set_2c] 93 fun n4 =>
  k (.pointer (some ⟨n4, 0, none⟩)))
theorem F112_eq (k : Value → W) (length_1 : Int) (set_2p : Option Addr) (set_2l : Nat) (set_2c : Nat) : compF Go.Proofs.Try.prog Go.Proofs.Try.f112 [] (Go.Proofs.Try.f112.body.getD .skip) [.int .u64 length_1, .slice set_2p set_2l set_2c] k = F112 k length_1 set_2p set_2l set_2c := by kernel_rfl
theorem F112_calls {length_1 : Int} {set_2p : Option Addr} {set_2l : Nat} {set_2c : Nat} {w : World} {R : Ending → World → Prop} (h : F112 (fun v w => R (.returned v) w) length_1 set_2p set_2l set_2c w) : Calls Go.Proofs.Try.prog 112 #[.int .u64 length_1, .slice set_2p set_2l set_2c] w R :=
  calls_of_compF noNum follows [] (f := 112) (fn := Go.Proofs.Try.f112) (body := Go.Proofs.Try.f112.body.getD .skip) (args := [.int .u64 length_1, .slice set_2p set_2l set_2c]) rfl rfl (Nat.le_of_ble_eq_true rfl) ((congrFun (F112_eq _ length_1 set_2p set_2l set_2c) w).mpr h)
theorem F112_call {length_1 : Int} {set_2p : Option Addr} {set_2l : Nat} {set_2c : Nat} {w : World} {g : Fn W (RTy.leaves (.s (.one .ptr)))} (h : F112 (fun v => Back (.s (.one .ptr)) g (.returned v)) length_1 set_2p set_2l set_2c w) : CallT Go.Proofs.Try.prog 112 [.int .u64 length_1, .slice set_2p set_2l set_2c] (.s (.one .ptr)) g w := F112_calls h

/-! ## bitset.From -/
def F84 (k : Value → W) (buf_1p : Option Addr) (buf_1l : Nat) (buf_1c : Nat) : W :=
 CallT Go.Proofs.Try.prog 112 [.int .u64 (mulI .u64 (IntKind.wrap .u64 ((buf_1l : Nat) : Int)) 64), .slice buf_1p buf_1l buf_1c] (.s (.one .ptr)) fun p2 =>
 k (.pointer p2)
theorem F84_eq (k : Value → W) (buf_1p : Option Addr) (buf_1l : Nat) (buf_1c : Nat) : compF Go.Proofs.Try.prog Go.Proofs.Try.f84 [] (Go.Proofs.Try.f84.body.getD .skip) [.slice buf_1p buf_1l buf_1c] k = F84 k buf_1p buf_1l buf_1c := by kernel_rfl
theorem F84_calls {buf_1p : Option Addr} {buf_1l : Nat} {buf_1c : Nat} {w : World} {R : Ending → World → Prop} (h : F84 (fun v w => R (.returned v) w) buf_1p buf_1l buf_1c w) : Calls Go.Proofs.Try.prog 84 #[.slice buf_1p buf_1l buf_1c] w R :=
  calls_of_compF noNum follows [] (f := 84) (fn := Go.Proofs.Try.f84) (body := Go.Proofs.Try.f84.body.getD .skip) (args := [.slice buf_1p buf_1l buf_1c]) rfl rfl (Nat.le_of_ble_eq_true rfl) ((congrFun (F84_eq _ buf_1p buf_1l buf_1c) w).mpr h)
theorem F84_call {buf_1p : Option Addr} {buf_1l : Nat} {buf_1c : Nat} {w : World} {g : Fn W (RTy.leaves (.s (.one .ptr)))} (h : F84 (fun v => Back (.s (.one .ptr)) g (.returned v)) buf_1p buf_1l buf_1c w) : CallT Go.Proofs.Try.prog 84 [.slice buf_1p buf_1l buf_1c] (.s (.one .ptr)) g w := F84_calls h

/-! ## bloom.FromWithM -/
def F103 (k : Value → W) (data_1p : Option Addr) (data_1l : Nat) (data_1c : Nat) (m_2 : Int) (k_3 : Int) : W :=
 CallT Go.Proofs.Try.prog 84 [.slice data_1p data_1l data_1c] (.s (.one .ptr)) fun p4 =>
 New [.int .u64 m_2, .int .u64 k_3, .pointer p4] 108 fun n5 =>
 k (.pointer (some ⟨n5, 0, none⟩))
theorem F103_eq (k : Value → W) (data_1p : Option Addr) (data_1l : Nat) (data_1c : Nat) (m_2 : Int) (k_3 : Int) : compF Go.Proofs.Try.prog Go.Proofs.Try.f103 [] (Go.Proofs.Try.f103.body.getD .skip) [.slice data_1p data_1l data_1c, .int .u64 m_2, .int .u64 k_3] k = F103 k data_1p data_1l data_1c m_2 k_3 := by kernel_rfl
theorem F103_calls {data_1p : Option Addr} {data_1l : Nat} {data_1c : Nat} {m_2 : Int} {k_3 : Int} {w : World} {R : Ending → World → Prop} (h : F103 (fun v w => R (.returned v) w) data_1p data_1l data_1c m_2 k_3 w) : Calls Go.Proofs.Try.prog 103 #[.slice data_1p data_1l data_1c, .int .u64 m_2, .int .u64 k_3] w R :=
  calls_of_compF noNum follows [] (f := 103) (fn := Go.Proofs.Try.f103) (body := Go.Proofs.Try.f103.body.getD .skip) (args := [.slice data_1p data_1l data_1c, .int .u64 m_2, .int .u64 k_3]) rfl rfl (Nat.le_of_ble_eq_true rfl) ((congrFun (F103_eq _ data_1p data_1l data_1c m_2 k_3) w).mpr h)
theorem F103_call {data_1p : Option Addr} {data_1l : Nat} {data_1c : Nat} {m_2 : Int} {k_3 : Int} {w : World} {g : Fn W (RTy.leaves (.s (.one .ptr)))} (h : F103 (fun v => Back (.s (.one .ptr)) g (.returned v)) data_1p data_1l data_1c m_2 k_3 w) : CallT Go.Proofs.Try.prog 103 [.slice data_1p data_1l data_1c, .int .u64 m_2, .int .u64 k_3] (.s (.one .ptr)) g w := F103_calls h

/-! ## impl.filter -/
def F75 (k : Value → W) (x1 : Int) (x2 : Int) (s3p : Option Addr) (s3l : Nat) (s3c : Nat) : W :=
 New [.int .u64 x1, .int .u64 x2, .slice s3p s3l s3c] 46 fun n4 =>
 Drw <|
 LoadT .slice ⟨n4, 2, none⟩ fun s5p s5l s5c =>
 LoadT (.int .u64) ⟨n4, 0, none⟩ fun x6 =>
 LoadT (.int .u64) ⟨n4, 1, none⟩ fun x7 =>
 CallT Go.Proofs.Try.prog 85 [.slice s5p s5l s5c] (.s (.one .slice)) fun s8p s8l s8c =>
 Chk1 ⟨n4, 1, none⟩ (.int .u64 x7) <|
 Chk1 ⟨n4, 0, none⟩ (.int .u64 x6) <|
 CallT Go.Proofs.Try.prog 103 [.slice s8p s8l s8c, .int .u64 x6, .int .u64 x7] (.s (.one .ptr)) fun p9 =>
 Chk1 ⟨n4, 2, none⟩ (.slice s5p s5l s5c) <|
 k (.pointer p9)
theorem F75_eq (k : Value → W) (x1 : Int) (x2 : Int) (s3p : Option Addr) (s3l : Nat) (s3c : Nat) : compF Go.Proofs.Try.prog Go.Proofs.Try.f75 [] (Go.Proofs.Try.f75.body.getD .skip) [.agg #[.int .u64 x1, .int .u64 x2, .slice s3p s3l s3c]] k = F75 k x1 x2 s3p s3l s3c := by kernel_rfl
theorem F75_calls {x1 : Int} {x2 : Int} {s3p : Option Addr} {s3l : Nat} {s3c : Nat} {w : World} {R : Ending → World → Prop} (h : F75 (fun v w => R (.returned v) w) x1 x2 s3p s3l s3c w) : Calls Go.Proofs.Try.prog 75 #[.agg #[.int .u64 x1, .int .u64 x2, .slice s3p s3l s3c]] w R :=
  calls_of_compF noNum follows [] (f := 75) (fn := Go.Proofs.Try.f75) (body := Go.Proofs.Try.f75.body.getD .skip) (args := [.agg #[.int .u64 x1, .int .u64 x2, .slice s3p s3l s3c]]) rfl rfl (Nat.le_of_ble_eq_true rfl) ((congrFun (F75_eq _ x1 x2 s3p s3l s3c) w).mpr h)
theorem F75_call {x1 : Int} {x2 : Int} {s3p : Option Addr} {s3l : Nat} {s3c : Nat} {w : World} {g : Fn W (RTy.leaves (.s (.one .ptr)))} (h : F75 (fun v => Back (.s (.one .ptr)) g (.returned v)) x1 x2 s3p s3l s3c w) : CallT Go.Proofs.Try.prog 75 [.agg #[.int .u64 x1, .int .u64 x2, .slice s3p s3l s3c]] (.s (.one .ptr)) g w := F75_calls h

/-! ## bloom.BloomFilter).location -/
def F104 (k : Value → W) (f_1 : Option Addr) (x2 : Int) (x3 : Int) (x4 : Int) (x5 : Int) (i_6 : Int) : W :=
 New [.int .u64 x2, .int .u64 x3, .int .u64 x4, .int .u64 x5] 103 fun n7 =>
 Drw <|
 LoadT (.int .u64) ⟨n7, 0, none⟩ fun x8 =>
 LoadT (.int .u64) ⟨n7, 1, none⟩ fun x9 =>
 LoadT (.int .u64) ⟨n7, 2, none⟩ fun x10 =>
 LoadT (.int .u64) ⟨n7, 3, none⟩ fun x11 =>
 NN f_1 fun a12 =>
 LoadT (.int .u64) a12 fun x13 =>
 CallT Go.Proofs.Try.prog 102 [.agg #[.int .u64 x8, .int .u64 x9, .int .u64 x10, .int .u64 x11], .int .u64 i_6] (.s (.one (.int .u64))) fun x14 =>
 Chk1 a12 (.int .u64 x13) <|
 Req (x13 ≠ (0 : Int)) <|
 k (.int .u64 (remI x14 x13))
theorem F104_eq (k : Value → W) (f_1 : Option Addr) (x2 : Int) (x3 : Int) (x4 : Int) (x5 : Int) (i_6 : Int) : compF Go.Proofs.Try.prog Go.Proofs.Try.f104 [] (Go.Proofs.Try.f104.body.getD .skip) [.pointer f_1, .agg #[.int .u64 x2, .int .u64 x3, .int .u64 x4, .int .u64 x5], .int .u64 i_6] k = F104 k f_1 x2 x3 x4 x5 i_6 := by kernel_rfl
theorem F104_calls {f_1 : Option Addr} {x2 : Int} {x3 : Int} {x4 : Int} {x5 : Int} {i_6 : Int} {w : World} {R : Ending → World → Prop} (h : F104 (fun v w => R (.returned v) w) f_1 x2 x3 x4 x5 i_6 w) : Calls Go.Proofs.Try.prog 104 #[.pointer f_1, .agg #[.int .u64 x2, .int .u64 x3, .int .u64 x4, .int .u64 x5], .int .u64 i_6] w R :=
  calls_of_compF noNum follows [] (f := 104) (fn := Go.Proofs.Try.f104) (body := Go.Proofs.Try.f104.body.getD .skip) (args := [.pointer f_1, .agg #[.int .u64 x2, .int .u64 x3, .int .u64 x4, .int .u64 x5], .int .u64 i_6]) rfl rfl (Nat.le_of_ble_eq_true rfl) ((congrFun (F104_eq _ f_1 x2 x3 x4 x5 i_6) w).mpr h)
theorem F104_call {f_1 : Option Addr} {x2 : Int} {x3 : Int} {x4 : Int} {x5 : Int} {i_6 : Int} {w : World} {g : Fn W (RTy.leaves (.s (.one (.int .u64))))} (h : F104 (fun v => Back (.s (.one (.int .u64))) g (.returned v)) f_1 x2 x3 x4 x5 i_6 w) : CallT Go.Proofs.Try.prog 104 [.pointer f_1, .agg #[.int .u64 x2, .int .u64 x3, .int .u64 x4, .int .u64 x5], .int .u64 i_6] (.s (.one (.int .u64))) g w := F104_calls h

/-! ## bloom.BloomFilter).Test -/
def F76_L1 (k : Value → W) (again11 : Option Addr → Addr → Int → W) (f_8 : Option Addr) (h_9 : Addr) (i_10 : Int) : W :=
 NN f_8 fun a12 =>
 LoadT (.int .u64) (a12.add 1) fun x13 =>
 BIf (decide (i_10 < x13)) (
  Drw <|
  NN f_8 fun a14 =>
  LoadT .ptr (a14.add 2) fun p15 =>
  LoadT (.int .u64) (h_9.add 0) fun x16 =>
  LoadT (.int .u64) (h_9.add 1) fun x17 =>
  LoadT (.int .u64) (h_9.add 2) fun x18 =>
  LoadT (.int .u64) (h_9.add 3) fun x19 =>
  CallT Go.Proofs.Try.prog 104 [.pointer f_8, .agg #[.int .u64 x16, .int .u64 x17, .int .u64 x18, .int .u64 x19], .int .u64 i_10] (.s (.one (.int .u64))) fun x20 =>
  Chk1 (a14.add 2) (.pointer p15) <|
  CallT Go.Proofs.Try.prog 52 [.pointer p15, .int .u64 x20] (.s (.one .bool)) fun b21 =>
  Chk1 (h_9.add 0) (.int .u64 x16) <|
  Chk1 (h_9.add 1) (.int .u64 x17) <|
  Chk1 (h_9.add 2) (.int .u64 x18) <|
  Chk1 (h_9.add 3) (.int .u64 x19) <|
  BIf (!b21) (
   k (.bool false)) (
   again11 f_8 h_9 (addI .u64 i_10 1))) (
  k (.bool true))
theorem F76_L1_rule {k : Value → W} (I : Option Addr → Addr → Int → W) (μ : Option Addr → Addr → Int → World → Nat)
  (hr : ∀ (f_8 : Option Addr) (h_9 : Addr) (i_10 : Int) (w : World), I f_8 h_9 i_10 w → F76_L1 k (fun f_8' h_9' i_10' w' => I f_8' h_9' i_10' w' ∧ μ f_8' h_9' i_10' w' < μ f_8 h_9 i_10 w) f_8 h_9 i_10 w)
  {w : World} {f_8 : Option Addr} {h_9 : Addr} {i_10 : Int} (h : I f_8 h_9 i_10 w) : Loop [.ptr, .addr, (.int .u64)] (F76_L1 k) f_8 h_9 i_10 w :=
  Loop_intro (ts := [.ptr, .addr, (.int .u64)]) (s := (f_8, h_9, i_10, ())) (fun s w => I s.1 s.2.1 s.2.2.1 w) (fun s w => μ s.1 s.2.1 s.2.2.1 w) h (fun s w h => hr s.1 s.2.1 s.2.2.1 w h)
def F76 (k : Value → W) (f_1 : Option Addr) (data_2p : Option Addr) (data_2l : Nat) (data_2c : Nat) : W :=
 CallT Go.Proofs.Try.prog 101 [.slice data_2p data_2l data_2c] (.s (.agg [(.int .u64), (.int .u64), (.int .u64), (.int .u64)])) fun x3 x4 x5 x6 =>
 New [.int .u64 0, .int .u64 0, .int .u64 0, .int .u64 0] 103 fun n7 =>
 Store1 ⟨n7, 0, none⟩ (.int .u64 x3) <|
 Store1 ⟨n7, 1, none⟩ (.int .u64 x4) <|
 Store1 ⟨n7, 2, none⟩ (.int .u64 x5) <|
 Store1 ⟨n7, 3, none⟩ (.int .u64 x6) <|
 Loop [.ptr, .addr, (.int .u64)] (F76_L1 k) f_1 ⟨n7, 0, none⟩ 0
theorem F76_eq (k : Value → W) (f_1 : Option Addr) (data_2p : Option Addr) (data_2l : Nat) (data_2c : Nat) : compF Go.Proofs.Try.prog Go.Proofs.Try.f76 [(3, [(0, .ptr), (5, .addr), (6, (.int .u64))])] (Go.Proofs.Try.f76.body.getD .skip) [.pointer f_1, .slice data_2p data_2l data_2c] k = F76 k f_1 data_2p data_2l data_2c := by kernel_rfl
theorem F76_calls {f_1 : Option Addr} {data_2p : Option Addr} {data_2l : Nat} {data_2c : Nat} {w : World} {R : Ending → World → Prop} (h : F76 (fun v w => R (.returned v) w) f_1 data_2p data_2l data_2c w) : Calls Go.Proofs.Try.prog 76 #[.pointer f_1, .slice data_2p data_2l data_2c] w R :=
  calls_of_compF noNum follows [(3, [(0, .ptr), (5, .addr), (6, (.int .u64))])] (f := 76) (fn := Go.Proofs.Try.f76) (body := Go.Proofs.Try.f76.body.getD .skip) (args := [.pointer f_1, .slice data_2p data_2l data_2c]) rfl rfl (Nat.le_of_ble_eq_true rfl) ((congrFun (F76_eq _ f_1 data_2p data_2l data_2c) w).mpr h)
theorem F76_call {f_1 : Option Addr} {data_2p : Option Addr} {data_2l : Nat} {data_2c : Nat} {w : World} {g : Fn W (RTy.leaves (.s (.one .bool)))} (h : F76 (fun v => Back (.s (.one .bool)) g (.returned v)) f_1 data_2p data_2l data_2c w) : CallT Go.Proofs.Try.prog 76 [.pointer f_1, .slice data_2p data_2l data_2c] (.s (.one .bool)) g w := F76_calls h

/-! ## impl.BLTest -/
def F40 (k : Value → W) (x1 : Int) (x2 : Int) (s3p : Option Addr) (s3l : Nat) (s3c : Nat) (data_4p : Option Addr) (data_4l : Nat) (data_4c : Nat) : W :=
 New [.int .u64 x1, .int .u64 x2, .slice s3p s3l s3c] 46 fun n5 =>
 LoadT (.int .u64) ⟨n5, 0, none⟩ fun x6 =>
 LoadT (.int .u64) ⟨n5, 1, none⟩ fun x7 =>
 LoadT .slice ⟨n5, 2, none⟩ fun s8p s8l s8c =>
 CallT Go.Proofs.Try.prog 75 [.agg #[.int .u64 x6, .int .u64 x7, .slice s8p s8l s8c]] (.s (.one .ptr)) fun p9 =>
 CallT Go.Proofs.Try.prog 76 [.pointer p9, .slice data_4p data_4l data_4c] (.s (.one .bool)) fun b10 =>
 k (.bool b10)
theorem F40_eq (k : Value → W) (x1 : Int) (x2 : Int) (s3p : Option Addr) (s3l : Nat) (s3c : Nat) (data_4p : Option Addr) (data_4l : Nat) (data_4c : Nat) : compF Go.Proofs.Try.prog Go.Proofs.Try.f40 [] (Go.Proofs.Try.f40.body.getD .skip) [.agg #[.int .u64 x1, .int .u64 x2, .slice s3p s3l s3c], .slice data_4p data_4l data_4c] k = F40 k x1 x2 s3p s3l s3c data_4p data_4l data_4c := by kernel_rfl
theorem F40_calls {x1 : Int} {x2 : Int} {s3p : Option Addr} {s3l : Nat} {s3c : Nat} {data_4p : Option Addr} {data_4l : Nat} {data_4c : Nat} {w : World} {R : Ending → World → Prop} (h : F40 (fun v w => R (.returned v) w) x1 x2 s3p s3l s3c data_4p data_4l data_4c w) : Calls Go.Proofs.Try.prog 40 #[.agg #[.int .u64 x1, .int .u64 x2, .slice s3p s3l s3c], .slice data_4p data_4l data_4c] w R :=
  calls_of_compF noNum follows [] (f := 40) (fn := Go.Proofs.Try.f40) (body := Go.Proofs.Try.f40.body.getD .skip) (args := [.agg #[.int .u64 x1, .int .u64 x2, .slice s3p s3l s3c], .slice data_4p data_4l data_4c]) rfl rfl (Nat.le_of_ble_eq_true rfl) ((congrFun (F40_eq _ x1 x2 s3p s3l s3c data_4p data_4l data_4c) w).mpr h)
theorem F40_call {x1 : Int} {x2 : Int} {s3p : Option Addr} {s3l : Nat} {s3c : Nat} {data_4p : Option Addr} {data_4l : Nat} {data_4c : Nat} {w : World} {g : Fn W (RTy.leaves (.s (.one .bool)))} (h : F40 (fun v => Back (.s (.one .bool)) g (.returned v)) x1 x2 s3p s3l s3c data_4p data_4l data_4c w) : CallT Go.Proofs.Try.prog 40 [.agg #[.int .u64 x1, .int .u64 x2, .slice s3p s3l s3c], .slice data_4p data_4l data_4c] (.s (.one .bool)) g w := F40_calls h

/-! ## bloom.BloomFilter).TestLocations -/
def F77_L1 (k : Value → W) (again6 : Option Addr → Option Addr → Nat → Nat → Int → W) (f_3 : Option Addr) (locs_4p : Option Addr) (locs_4l : Nat) (locs_4c : Nat) (i_5 : Int) : W :=
 BIf (decide (i_5 < ((locs_4l : Nat) : Int))) (
  Drw <|
  NN f_3 fun a7 =>
  LoadT .ptr (a7.add 2) fun p8 =>
  NN locs_4p fun a9 =>
  Req (0 ≤ i_5 ∧ i_5 < ((locs_4l : Nat) : Int)) <|
  LoadT (.int .u64) (a9.add i_5.toNat) fun x10 =>
  NN f_3 fun a11 =>
  LoadT (.int .u64) a11 fun x12 =>
  Req (x12 ≠ (0 : Int)) <|
  CallT Go.Proofs.Try.prog 52 [.pointer p8, .int .u64 (remI x10 x12)] (.s (.one .bool)) fun b13 =>
  Chk1 a11 (.int .u64 x12) <|
  Chk1 (a9.add i_5.toNat) (.int .u64 x10) <|
  BIf (!b13) (
   k (.bool false)) (
   again6 f_3 locs_4p locs_4l locs_4c (addI .i64 i_5 1))) (
  k (.bool true))
theorem F77_L1_rule {k : Value → W} (I : Option Addr → Option Addr → Nat → Nat → Int → W) (μ : Option Addr → Option Addr → Nat → Nat → Int → World → Nat)
  (hr : ∀ (f_3 : Option Addr) (locs_4p : Option Addr) (locs_4l : Nat) (locs_4c : Nat) (i_5 : Int) (w : World), I f_3 locs_4p locs_4l locs_4c i_5 w → F77_L1 k (fun f_3' locs_4p' locs_4l' locs_4c' i_5' w' => I f_3' locs_4p' locs_4l' locs_4c' i_5' w' ∧ μ f_3' locs_4p' locs_4l' locs_4c' i_5' w' < μ f_3 locs_4p locs_4l locs_4c i_5 w) f_3 locs_4p locs_4l locs_4c i_5 w)
  {w : World} {f_3 : Option Addr} {locs_4p : Option Addr} {locs_4l : Nat} {locs_4c : Nat} {i_5 : Int} (h : I f_3 locs_4p locs_4l locs_4c i_5 w) : Loop [.ptr, .slice, (.int .i64)] (F77_L1 k) f_3 locs_4p locs_4l locs_4c i_5 w :=
  Loop_intro (ts := [.ptr, .slice, (.int .i64)]) (s := (f_3, (locs_4p, locs_4l, locs_4c), i_5, ())) (fun s w => I s.1 s.2.1.1 s.2.1.2.1 s.2.1.2.2 s.2.2.1 w) (fun s w => μ s.1 s.2.1.1 s.2.1.2.1 s.2.1.2.2 s.2.2.1 w) h (fun s w h => hr s.1 s.2.1.1 s.2.1.2.1 s.2.1.2.2 s.2.2.1 w h)
def F77 (k : Value → W) (f_1 : Option Addr) (locs_2p : Option Addr) (locs_2l : Nat) (locs_2c : Nat) : W :=
 Loop [.ptr, .slice, (.int .i64)] (F77_L1 k) f_1 locs_2p locs_2l locs_2c 0
theorem F77_eq (k : Value → W) (f_1 : Option Addr) (locs_2p : Option Addr) (locs_2l : Nat) (locs_2c : Nat) : compF Go.Proofs.Try.prog Go.Proofs.Try.f77 [(2, [(0, .ptr), (1, .slice), (5, (.int .i64))])] (Go.Proofs.Try.f77.body.getD .skip) [.pointer f_1, .slice locs_2p locs_2l locs_2c] k = F77 k f_1 locs_2p locs_2l locs_2c := by kernel_rfl
theorem F77_calls {f_1 : Option Addr} {locs_2p : Option Addr} {locs_2l : Nat} {locs_2c : Nat} {w : World} {R : Ending → World → Prop} (h : F77 (fun v w => R (.returned v) w) f_1 locs_2p locs_2l locs_2c w) : Calls Go.Proofs.Try.prog 77 #[.pointer f_1, .slice locs_2p locs_2l locs_2c] w R :=
  calls_of_compF noNum follows [(2, [(0, .ptr), (1, .slice), (5, (.int .i64))])] (f := 77) (fn := Go.Proofs.Try.f77) (body := Go.Proofs.Try.f77.body.getD .skip) (args := [.pointer f_1, .slice locs_2p locs_2l locs_2c]) rfl rfl (Nat.le_of_ble_eq_true rfl) ((congrFun (F77_eq _ f_1 locs_2p locs_2l locs_2c) w).mpr h)
theorem F77_call {f_1 : Option Addr} {locs_2p : Option Addr} {locs_2l : Nat} {locs_2c : Nat} {w : World} {g : Fn W (RTy.leaves (.s (.one .bool)))} (h : F77 (fun v => Back (.s (.one .bool)) g (.returned v)) f_1 locs_2p locs_2l locs_2c w) : CallT Go.Proofs.Try.prog 77 [.pointer f_1, .slice locs_2p locs_2l locs_2c] (.s (.one .bool)) g w := F77_calls h

/-! ## impl.BLTestLocations -/
def F41 (k : Value → W) (x1 : Int) (x2 : Int) (s3p : Option Addr) (s3l : Nat) (s3c : Nat) (locs_4p : Option Addr) (locs_4l : Nat) (locs_4c : Nat) : W :=
 New [.int .u64 x1, .int .u64 x2, .slice s3p s3l s3c] 46 fun n5 =>
 LoadT (.int .u64) ⟨n5, 0, none⟩ fun x6 =>
 LoadT (.int .u64) ⟨n5, 1, none⟩ fun x7 =>
 LoadT .slice ⟨n5, 2, none⟩ fun s8p s8l s8c =>
 CallT Go.Proofs.Try.prog 75 [.agg #[.int .u64 x6, .int .u64 x7, .slice s8p s8l s8c]] (.s (.one .ptr)) fun p9 =>
 CallT Go.Proofs.Try.prog 77 [.pointer p9, .slice locs_4p locs_4l locs_4c] (.s (.one .bool)) fun b10 =>
 k (.bool b10)
theorem F41_eq (k : Value → W) (x1 : Int) (x2 : Int) (s3p : Option Addr) (s3l : Nat) (s3c : Nat) (locs_4p : Option Addr) (locs_4l : Nat) (locs_4c : Nat) : compF Go.Proofs.Try.prog Go.Proofs.Try.f41 [] (Go.Proofs.Try.f41.body.getD .skip) [.agg #[.int .u64 x1, .int .u64 x2, .slice s3p s3l s3c], .slice locs_4p locs_4l locs_4c] k = F41 k x1 x2 s3p s3l s3c locs_4p locs_4l locs_4c := by kernel_rfl
theorem F41_calls {x1 : Int} {x2 : Int} {s3p : Option Addr} {s3l : Nat} {s3c : Nat} {locs_4p : Option Addr} {locs_4l : Nat} {locs_4c : Nat} {w : World} {R : Ending → World → Prop} (h : F41 (fun v w => R (.returned v) w) x1 x2 s3p s3l s3c locs_4p locs_4l locs_4c w) : Calls Go.Proofs.Try.prog 41 #[.agg #[.int .u64 x1, .int .u64 x2, .slice s3p s3l s3c], .slice locs_4p locs_4l locs_4c] w R :=
  calls_of_compF noNum follows [] (f := 41) (fn := Go.Proofs.Try.f41) (body := Go.Proofs.Try.f41.body.getD .skip) (args := [.agg #[.int .u64 x1, .int .u64 x2, .slice s3p s3l s3c], .slice locs_4p locs_4l locs_4c]) rfl rfl (Nat.le_of_ble_eq_true rfl) ((congrFun (F41_eq _ x1 x2 s3p s3l s3c locs_4p locs_4l locs_4c) w).mpr h)
theorem F41_call {x1 : Int} {x2 : Int} {s3p : Option Addr} {s3l : Nat} {s3c : Nat} {locs_4p : Option Addr} {locs_4l : Nat} {locs_4c : Nat} {w : World} {g : Fn W (RTy.leaves (.s (.one .bool)))} (h : F41 (fun v => Back (.s (.one .bool)) g (.returned v)) x1 x2 s3p s3l s3c locs_4p locs_4l locs_4c w) : CallT Go.Proofs.Try.prog 41 [.agg #[.int .u64 x1, .int .u64 x2, .slice s3p s3l s3c], .slice locs_4p locs_4l locs_4c] (.s (.one .bool)) g w := F41_calls h

/-! ## bloom.BloomFilter).TestString -/
def F78 (k : Value → W) (f_1 : Option Addr) (data_2 : ByteArray) : W :=
 RawT Go.Proofs.Try.prog (convert 9 44 (.string data_2)) (.s (.one .slice)) fun s3p s3l s3c =>
 CallT Go.Proofs.Try.prog 76 [.pointer f_1, .slice s3p s3l s3c] (.s (.one .bool)) fun b4 =>
 k (.bool b4)
theorem F78_eq (k : Value → W) (f_1 : Option Addr) (data_2 : ByteArray) : compF Go.Proofs.Try.prog Go.Proofs.Try.f78 [] (Go.Proofs.Try.f78.body.getD .skip) [.pointer f_1, .string data_2] k = F78 k f_1 data_2 := by kernel_rfl
theorem F78_calls {f_1 : Option Addr} {data_2 : ByteArray} {w : World} {R : Ending → World → Prop} (h : F78 (fun v w => R (.returned v) w) f_1 data_2 w) : Calls Go.Proofs.Try.prog 78 #[.pointer f_1, .string data_2] w R :=
  calls_of_compF noNum follows [] (f := 78) (fn := Go.Proofs.Try.f78) (body := Go.Proofs.Try.f78.body.getD .skip) (args := [.pointer f_1, .string data_2]) rfl rfl (Nat.le_of_ble_eq_true rfl) ((congrFun (F78_eq _ f_1 data_2) w).mpr h)
theorem F78_call {f_1 : Option Addr} {data_2 : ByteArray} {w : World} {g : Fn W (RTy.leaves (.s (.one .bool)))} (h : F78 (fun v => Back (.s (.one .bool)) g (.returned v)) f_1 data_2 w) : CallT Go.Proofs.Try.prog 78 [.pointer f_1, .string data_2] (.s (.one .bool)) g w := F78_calls h

/-! ## impl.BLTestString -/
def F42 (k : Value → W) (x1 : Int) (x2 : Int) (s3p : Option Addr) (s3l : Nat) (s3c : Nat) (s_4 : ByteArray) : W :=
 New [.int .u64 x1, .int .u64 x2, .slice s3p s3l s3c] 46 fun n5 =>
 LoadT (.int .u64) ⟨n5, 0, none⟩ fun x6 =>
 LoadT (.int .u64) ⟨n5, 1, none⟩ fun x7 =>
 LoadT .slice ⟨n5, 2, none⟩ fun s8p s8l s8c =>
 CallT Go.Proofs.Try.prog 75 [.agg #[.int .u64 x6, .int .u64 x7, .slice s8p s8l s8c]] (.s (.one .ptr)) fun p9 =>
 CallT Go.Proofs.Try.prog 78 [.pointer p9, .string s_4] (.s (.one .bool)) fun b10 =>
 k (.bool b10)
theorem F42_eq (k : Value → W) (x1 : Int) (x2 : Int) (s3p : Option Addr) (s3l : Nat) (s3c : Nat) (s_4 : ByteArray) : compF Go.Proofs.Try.prog Go.Proofs.Try.f42 [] (Go.Proofs.Try.f42.body.getD .skip) [.agg #[.int .u64 x1, .int .u64 x2, .slice s3p s3l s3c], .string s_4] k = F42 k x1 x2 s3p s3l s3c s_4 := by kernel_rfl
theorem F42_calls {x1 : Int} {x2 : Int} {s3p : Option Addr} {s3l : Nat} {s3c : Nat} {s_4 : ByteArray} {w : World} {R : Ending → World → Prop} (h : F42 (fun v w => R (.returned v) w) x1 x2 s3p s3l s3c s_4 w) : Calls Go.Proofs.Try.prog 42 #[.agg #[.int .u64 x1, .int .u64 x2, .slice s3p s3l s3c], .string s_4] w R :=
  calls_of_compF noNum follows [] (f := 42) (fn := Go.Proofs.Try.f42) (body := Go.Proofs.Try.f42.body.getD .skip) (args := [.agg #[.int .u64 x1, .int .u64 x2, .slice s3p s3l s3c], .string s_4]) rfl rfl (Nat.le_of_ble_eq_true rfl) ((congrFun (F42_eq _ x1 x2 s3p s3l s3c s_4) w).mpr h)
theorem F42_call {x1 : Int} {x2 : Int} {s3p : Option Addr} {s3l : Nat} {s3c : Nat} {s_4 : ByteArray} {w : World} {g : Fn W (RTy.leaves (.s (.one .bool)))} (h : F42 (fun v => Back (.s (.one .bool)) g (.returned v)) x1 x2 s3p s3l s3c s_4 w) : CallT Go.Proofs.Try.prog 42 [.agg #[.int .u64 x1, .int .u64 x2, .slice s3p s3l s3c], .string s_4] (.s (.one .bool)) g w := F42_calls h

/-! ## bloom.BloomFilter).Cap -/
def F105 (k : Value → W) (f_1 : Option Addr) : W :=
 NN f_1 fun a2 =>
 LoadT (.int .u64) a2 fun x3 =>
 k (.int .u64 x3)
theorem F105_eq (k : Value → W) (f_1 : Option Addr) : compF Go.Proofs.Try.prog Go.Proofs.Try.f105 [] (Go.Proofs.Try.f105.body.getD .skip) [.pointer f_1] k = F105 k f_1 := by kernel_rfl
theorem F105_calls {f_1 : Option Addr} {w : World} {R : Ending → World → Prop} (h : F105 (fun v w => R (.returned v) w) f_1 w) : Calls Go.Proofs.Try.prog 105 #[.pointer f_1] w R :=
  calls_of_compF noNum follows [] (f := 105) (fn := Go.Proofs.Try.f105) (body := Go.Proofs.Try.f105.body.getD .skip) (args := [.pointer f_1]) rfl rfl (Nat.le_of_ble_eq_true rfl) ((congrFun (F105_eq _ f_1) w).mpr h)
theorem F105_call {f_1 : Option Addr} {w : World} {g : Fn W (RTy.leaves (.s (.one (.int .u64))))} (h : F105 (fun v => Back (.s (.one (.int .u64))) g (.returned v)) f_1 w) : CallT Go.Proofs.Try.prog 105 [.pointer f_1] (.s (.one (.int .u64))) g w := F105_calls h

/-! ## bloom.BloomFilter).K -/
def F106 (k : Value → W) (f_1 : Option Addr) : W :=
 NN f_1 fun a2 =>
 LoadT (.int .u64) (a2.add 1) fun x3 =>
 k (.int .u64 x3)
theorem F106_eq (k : Value → W) (f_1 : Option Addr) : compF Go.Proofs.Try.prog Go.Proofs.Try.f106 [] (Go.Proofs.Try.f106.body.getD .skip) [.pointer f_1] k = F106 k f_1 := by kernel_rfl
theorem F106_calls {f_1 : Option Addr} {w : World} {R : Ending → World → Prop} (h : F106 (fun v w => R (.returned v) w) f_1 w) : Calls Go.Proofs.Try.prog 106 #[.pointer f_1] w R :=
  calls_of_compF noNum follows [] (f := 106) (fn := Go.Proofs.Try.f106) (body := Go.Proofs.Try.f106.body.getD .skip) (args := [.pointer f_1]) rfl rfl (Nat.le_of_ble_eq_true rfl) ((congrFun (F106_eq _ f_1) w).mpr h)
theorem F106_call {f_1 : Option Addr} {w : World} {g : Fn W (RTy.leaves (.s (.one (.int .u64))))} (h : F106 (fun v => Back (.s (.one (.int .u64))) g (.returned v)) f_1 w) : CallT Go.Proofs.Try.prog 106 [.pointer f_1] (.s (.one (.int .u64))) g w := F106_calls h

/-! ## bloom.BloomFilter).BitSet -/
def F107 (k : Value → W) (f_1 : Option Addr) : W :=
 NN f_1 fun a2 =>
 LoadT .ptr (a2.add 2) fun p3 =>
 k (.pointer p3)
theorem F107_eq (k : Value → W) (f_1 : Option Addr) : compF Go.Proofs.Try.prog Go.Proofs.Try.f107 [] (Go.Proofs.Try.f107.body.getD .skip) [.pointer f_1] k = F107 k f_1 := by kernel_rfl
theorem F107_calls {f_1 : Option Addr} {w : World} {R : Ending → World → Prop} (h : F107 (fun v w => R (.returned v) w) f_1 w) : Calls Go.Proofs.Try.prog 107 #[.pointer f_1] w R :=
  calls_of_compF noNum follows [] (f := 107) (fn := Go.Proofs.Try.f107) (body := Go.Proofs.Try.f107.body.getD .skip) (args := [.pointer f_1]) rfl rfl (Nat.le_of_ble_eq_true rfl) ((congrFun (F107_eq _ f_1) w).mpr h)
theorem F107_call {f_1 : Option Addr} {w : World} {g : Fn W (RTy.leaves (.s (.one .ptr)))} (h : F107 (fun v => Back (.s (.one .ptr)) g (.returned v)) f_1 w) : CallT Go.Proofs.Try.prog 107 [.pointer f_1] (.s (.one .ptr)) g w := F107_calls h

/-! ## bitset.BitSet).Words -/
def F108 (k : Value → W) (b_1 : Option Addr) : W :=
 NN b_1 fun a2 =>
 LoadT .slice (a2.add 1) fun s3p s3l s3c =>
 k (.slice s3p s3l s3c)
theorem F108_eq (k : Value → W) (b_1 : Option Addr) : compF Go.Proofs.Try.prog Go.Proofs.Try.f108 [] (Go.Proofs.Try.f108.body.getD .skip) [.pointer b_1] k = F108 k b_1 := by kernel_rfl
theorem F108_calls {b_1 : Option Addr} {w : World} {R : Ending → World → Prop} (h : F108 (fun v w => R (.returned v) w) b_1 w) : Calls Go.Proofs.Try.prog 108 #[.pointer b_1] w R :=
  calls_of_compF noNum follows [] (f := 108) (fn := Go.Proofs.Try.f108) (body := Go.Proofs.Try.f108.body.getD .skip) (args := [.pointer b_1]) rfl rfl (Nat.le_of_ble_eq_true rfl) ((congrFun (F108_eq _ b_1) w).mpr h)
theorem F108_call {b_1 : Option Addr} {w : World} {g : Fn W (RTy.leaves (.s (.one .slice)))} (h : F108 (fun v => Back (.s (.one .slice)) g (.returned v)) b_1 w) : CallT Go.Proofs.Try.prog 108 [.pointer b_1] (.s (.one .slice)) g w := F108_calls h

/-! ## impl.told -/
def F79 (k : Value → W) (f_1 : Option Addr) : W :=
 New [.int .u64 0, .int .u64 0, .slice none 0 0] 46 fun n2 =>
 CallT Go.Proofs.Try.prog 105 [.pointer f_1] (.s (.one (.int .u64))) fun x3 =>
 CallT Go.Proofs.Try.prog 106 [.pointer f_1] (.s (.one (.int .u64))) fun x4 =>
 CallT Go.Proofs.Try.prog 107 [.pointer f_1] (.s (.one .ptr)) fun p5 =>
 CallT Go.Proofs.Try.prog 108 [.pointer p5] (.s (.one .slice)) fun s6p s6l s6c =>
 CallT Go.Proofs.Try.prog 85 [.slice s6p s6l s6c] (.s (.one .slice)) fun s7p s7l s7c =>
 Store1 ⟨n2, 0, none⟩ (.int .u64 x3) <|
 Store1 ⟨n2, 1, none⟩ (.int .u64 x4) <|
 Store1 ⟨n2, 2, none⟩ (.slice s7p s7l s7c) <|
 LoadT (.int .u64) ⟨n2, 0, none⟩ fun x8 =>
 LoadT (.int .u64) ⟨n2, 1, none⟩ fun x9 =>
 LoadT .slice ⟨n2, 2, none⟩ fun s10p s10l s10c =>
 k (.agg #[.int .u64 x8, .int .u64 x9, .slice s10p s10l s10c])
theorem F79_eq (k : Value → W) (f_1 : Option Addr) : compF Go.Proofs.Try.prog Go.Proofs.Try.f79 [] (Go.Proofs.Try.f79.body.getD .skip) [.pointer f_1] k = F79 k f_1 := by kernel_rfl
theorem F79_calls {f_1 : Option Addr} {w : World} {R : Ending → World → Prop} (h : F79 (fun v w => R (.returned v) w) f_1 w) : Calls Go.Proofs.Try.prog 79 #[.pointer f_1] w R :=
  calls_of_compF noNum follows [] (f := 79) (fn := Go.Proofs.Try.f79) (body := Go.Proofs.Try.f79.body.getD .skip) (args := [.pointer f_1]) rfl rfl (Nat.le_of_ble_eq_true rfl) ((congrFun (F79_eq _ f_1) w).mpr h)
theorem F79_call {f_1 : Option Addr} {w : World} {g : Fn W (RTy.leaves (.s (.agg [(.int .u64), (.int .u64), .slice])))} (h : F79 (fun v => Back (.s (.agg [(.int .u64), (.int .u64), .slice])) g (.returned v)) f_1 w) : CallT Go.Proofs.Try.prog 79 [.pointer f_1] (.s (.agg [(.int .u64), (.int .u64), .slice])) g w := F79_calls h

/-! ## bloom.BloomFilter).Add -/
def F81_L1 (k : Value → W) (again11 : Option Addr → Addr → Int → W) (f_8 : Option Addr) (h_9 : Addr) (i_10 : Int) : W :=
 NN f_8 fun a12 =>
 LoadT (.int .u64) (a12.add 1) fun x13 =>
 BIf (decide (i_10 < x13)) (
  Drw <|
  NN f_8 fun a14 =>
  LoadT .ptr (a14.add 2) fun p15 =>
  LoadT (.int .u64) (h_9.add 0) fun x16 =>
  LoadT (.int .u64) (h_9.add 1) fun x17 =>
  LoadT (.int .u64) (h_9.add 2) fun x18 =>
  LoadT (.int .u64) (h_9.add 3) fun x19 =>
  CallT Go.Proofs.Try.prog 104 [.pointer f_8, .agg #[.int .u64 x16, .int .u64 x17, .int .u64 x18, .int .u64 x19], .int .u64 i_10] (.s (.one (.int .u64))) fun x20 =>
  Chk1 (a14.add 2) (.pointer p15) <|
  CallT Go.Proofs.Try.prog 54 [.pointer p15, .int .u64 x20] (.s (.one .ptr)) fun p21 =>
  Chk1 (h_9.add 0) (.int .u64 x16) <|
  Chk1 (h_9.add 1) (.int .u64 x17) <|
  Chk1 (h_9.add 2) (.int .u64 x18) <|
  Chk1 (h_9.add 3) (.int .u64 x19) <|
  again11 f_8 h_9 (addI .u64 i_10 1)) (
  k (.pointer f_8))
theorem F81_L1_rule {k : Value → W} (I : Option Addr → Addr → Int → W) (μ : Option Addr → Addr → Int → World → Nat)
  (hr : ∀ (f_8 : Option Addr) (h_9 : Addr) (i_10 : Int) (w : World), I f_8 h_9 i_10 w → F81_L1 k (fun f_8' h_9' i_10' w' => I f_8' h_9' i_10' w' ∧ μ f_8' h_9' i_10' w' < μ f_8 h_9 i_10 w) f_8 h_9 i_10 w)
  {w : World} {f_8 : Option Addr} {h_9 : Addr} {i_10 : Int} (h : I f_8 h_9 i_10 w) : Loop [.ptr, .addr, (.int .u64)] (F81_L1 k) f_8 h_9 i_10 w :=
  Loop_intro (ts := [.ptr, .addr, (.int .u64)]) (s := (f_8, h_9, i_10, ())) (fun s w => I s.1 s.2.1 s.2.2.1 w) (fun s w => μ s.1 s.2.1 s.2.2.1 w) h (fun s w h => hr s.1 s.2.1 s.2.2.1 w h)
def F81 (k : Value → W) (f_1 : Option Addr) (data_2p : Option Addr) (data_2l : Nat) (data_2c : Nat) : W :=
 CallT Go.Proofs.Try.prog 101 [.slice data_2p data_2l data_2c] (.s (.agg [(.int .u64), (.int .u64), (.int .u64), (.int .u64)])) fun x3 x4 x5 x6 =>
 New [.int .u64 0, .int .u64 0, .int .u64 0, .int .u64 0] 103 fun n7 =>
 Store1 ⟨n7, 0, none⟩ (.int .u64 x3) <|
 Store1 ⟨n7, 1, none⟩ (.int .u64 x4) <|
 Store1 ⟨n7, 2, none⟩ (.int .u64 x5) <|
 Store1 ⟨n7, 3, none⟩ (.int .u64 x6) <|
 Loop [.ptr, .addr, (.int .u64)] (F81_L1 k) f_1 ⟨n7, 0, none⟩ 0
theorem F81_eq (k : Value → W) (f_1 : Option Addr) (data_2p : Option Addr) (data_2l : Nat) (data_2c : Nat) : compF Go.Proofs.Try.prog Go.Proofs.Try.f81 [(3, [(0, .ptr), (5, .addr), (6, (.int .u64))])] (Go.Proofs.Try.f81.body.getD .skip) [.pointer f_1, .slice data_2p data_2l data_2c] k = F81 k f_1 data_2p data_2l data_2c := by kernel_rfl
theorem F81_calls {f_1 : Option Addr} {data_2p : Option Addr} {data_2l : Nat} {data_2c : Nat} {w : World} {R : Ending → World → Prop} (h : F81 (fun v w => R (.returned v) w) f_1 data_2p data_2l data_2c w) : Calls Go.Proofs.Try.prog 81 #[.pointer f_1, .slice data_2p data_2l data_2c] w R :=
  calls_of_compF noNum follows [(3, [(0, .ptr), (5, .addr), (6, (.int .u64))])] (f := 81) (fn := Go.Proofs.Try.f81) (body := Go.Proofs.Try.f81.body.getD .skip) (args := [.pointer f_1, .slice data_2p data_2l data_2c]) rfl rfl (Nat.le_of_ble_eq_true rfl) ((congrFun (F81_eq _ f_1 data_2p data_2l data_2c) w).mpr h)
theorem F81_call {f_1 : Option Addr} {data_2p : Option Addr} {data_2l : Nat} {data_2c : Nat} {w : World} {g : Fn W (RTy.leaves (.s (.one .ptr)))} (h : F81 (fun v => Back (.s (.one .ptr)) g (.returned v)) f_1 data_2p data_2l data_2c w) : CallT Go.Proofs.Try.prog 81 [.pointer f_1, .slice data_2p data_2l data_2c] (.s (.one .ptr)) g w := F81_calls h

/-! ## bloom.BloomFilter).AddString -/
def F80 (k : Value → W) (f_1 : Option Addr) (data_2 : ByteArray) : W :=
 RawT Go.Proofs.Try.prog (convert 9 44 (.string data_2)) (.s (.one .slice)) fun s3p s3l s3c =>
 CallT Go.Proofs.Try.prog 81 [.pointer f_1, .slice s3p s3l s3c] (.s (.one .ptr)) fun p4 =>
 k (.pointer p4)
theorem F80_eq (k : Value → W) (f_1 : Option Addr) (data_2 : ByteArray) : compF Go.Proofs.Try.prog Go.Proofs.Try.f80 [] (Go.Proofs.Try.f80.body.getD .skip) [.pointer f_1, .string data_2] k = F80 k f_1 data_2 := by kernel_rfl
theorem F80_calls {f_1 : Option Addr} {data_2 : ByteArray} {w : World} {R : Ending → World → Prop} (h : F80 (fun v w => R (.returned v) w) f_1 data_2 w) : Calls Go.Proofs.Try.prog 80 #[.pointer f_1, .string data_2] w R :=
  calls_of_compF noNum follows [] (f := 80) (fn := Go.Proofs.Try.f80) (body := Go.Proofs.Try.f80.body.getD .skip) (args := [.pointer f_1, .string data_2]) rfl rfl (Nat.le_of_ble_eq_true rfl) ((congrFun (F80_eq _ f_1 data_2) w).mpr h)
theorem F80_call {f_1 : Option Addr} {data_2 : ByteArray} {w : World} {g : Fn W (RTy.leaves (.s (.one .ptr)))} (h : F80 (fun v => Back (.s (.one .ptr)) g (.returned v)) f_1 data_2 w) : CallT Go.Proofs.Try.prog 80 [.pointer f_1, .string data_2] (.s (.one .ptr)) g w := F80_calls h

/-! ## impl.BLAddString -/
def F43 (k : Value → W) (x1 : Int) (x2 : Int) (s3p : Option Addr) (s3l : Nat) (s3c : Nat) (s_4 : ByteArray) : W :=
 New [.int .u64 x1, .int .u64 x2, .slice s3p s3l s3c] 46 fun n5 =>
 New [.int .u64 0, .int .u64 0, .slice none 0 0] 46 fun n6 =>
 LoadT (.int .u64) ⟨n5, 0, none⟩ fun x7 =>
 LoadT (.int .u64) ⟨n5, 1, none⟩ fun x8 =>
 LoadT .slice ⟨n5, 2, none⟩ fun s9p s9l s9c =>
 CallT Go.Proofs.Try.prog 75 [.agg #[.int .u64 x7, .int .u64 x8, .slice s9p s9l s9c]] (.s (.one .ptr)) fun p10 =>
 CallT Go.Proofs.Try.prog 80 [.pointer p10, .string s_4] (.s (.one .ptr)) fun p11 =>
 CallT Go.Proofs.Try.prog 79 [.pointer p11] (.s (.agg [(.int .u64), (.int .u64), .slice])) fun x12 x13 s14p s14l s14c =>
 Store1 ⟨n6, 0, none⟩ (.int .u64 x12) <|
 Store1 ⟨n6, 1, none⟩ (.int .u64 x13) <|
 Store1 ⟨n6, 2, none⟩ (.slice s14p s14l s14c) <|
 LoadT (.int .u64) ⟨n6, 0, none⟩ fun x15 =>
 LoadT (.int .u64) ⟨n6, 1, none⟩ fun x16 =>
 LoadT .slice ⟨n6, 2, none⟩ fun s17p s17l s17c =>
 k (.agg #[.int .u64 x15, .int .u64 x16, .slice s17p s17l s17c])
theorem F43_eq (k : Value → W) (x1 : Int) (x2 : Int) (s3p : Option Addr) (s3l : Nat) (s3c : Nat) (s_4 : ByteArray) : compF Go.Proofs.Try.prog Go.Proofs.Try.f43 [] (Go.Proofs.Try.f43.body.getD .skip) [.agg #[.int .u64 x1, .int .u64 x2, .slice s3p s3l s3c], .string s_4] k = F43 k x1 x2 s3p s3l s3c s_4 := by kernel_rfl
theorem F43_calls {x1 : Int} {x2 : Int} {s3p : Option Addr} {s3l : Nat} {s3c : Nat} {s_4 : ByteArray} {w : World} {R : Ending → World → Prop} (h : F43 (fun v w => R (.returned v) w) x1 x2 s3p s3l s3c s_4 w) : Calls Go.Proofs.Try.prog 43 #[.agg #[.int .u64 x1, .int .u64 x2, .slice s3p s3l s3c], .string s_4] w R :=
  calls_of_compF noNum follows [] (f := 43) (fn := Go.Proofs.Try.f43) (body := Go.Proofs.Try.f43.body.getD .skip) (args := [.agg #[.int .u64 x1, .int .u64 x2, .slice s3p s3l s3c], .string s_4]) rfl rfl (Nat.le_of_ble_eq_true rfl) ((congrFun (F43_eq _ x1 x2 s3p s3l s3c s_4) w).mpr h)
theorem F43_call {x1 : Int} {x2 : Int} {s3p : Option Addr} {s3l : Nat} {s3c : Nat} {s_4 : ByteArray} {w : World} {g : Fn W (RTy.leaves (.s (.agg [(.int .u64), (.int .u64), .slice])))} (h : F43 (fun v => Back (.s (.agg [(.int .u64), (.int .u64), .slice])) g (.returned v)) x1 x2 s3p s3l s3c s_4 w) : CallT Go.Proofs.Try.prog 43 [.agg #[.int .u64 x1, .int .u64 x2, .slice s3p s3l s3c], .string s_4] (.s (.agg [(.int .u64), (.int .u64), .slice])) g w := F43_calls h

/-! ## laws.FnBLDeepLocations -/
def F9 (k : Value → W) (m_1 : Int) (k_2 : Int) (words_3p : Option Addr) (words_3l : Nat) (words_3c : Nat) (data_4p : Option Addr) (data_4l : Nat) (data_4c : Nat) : W :=
 BIf (decide (((words_3l : Nat) : Int) > 2147483647)) (
  k (.bool true)) (
  BIf (decide (((data_4l : Nat) : Int) > 2147483647)) (
   k (.bool true)) (
   CallT Go.Proofs.Try.prog 37 [.int .u16 m_1, .int .u8 k_2, .slice words_3p words_3l words_3c] (.s (.agg [(.int .u64), (.int .u64), .slice])) fun x5 x6 s7p s7l s7c =>
   CallT Go.Proofs.Try.prog 38 [.slice data_4p data_4l data_4c] (.s (.one .slice)) fun s8p s8l s8c =>
   New [.int .u64 0, .int .u64 0, .slice none 0 0] 46 fun n9 =>
   Store1 ⟨n9, 0, none⟩ (.int .u64 x5) <|
   Store1 ⟨n9, 1, none⟩ (.int .u64 x6) <|
   Store1 ⟨n9, 2, none⟩ (.slice s7p s7l s7c) <|
   LoadT (.int .u64) ⟨n9, 1, none⟩ fun x10 =>
   CallT Go.Proofs.Try.prog 39 [.slice s8p s8l s8c, .int .u64 x10] (.s (.one .slice)) fun s11p s11l s11c =>
   LoadT (.int .u64) ⟨n9, 0, none⟩ fun x12 =>
   LoadT (.int .u64) ⟨n9, 1, none⟩ fun x13 =>
   LoadT .slice ⟨n9, 2, none⟩ fun s14p s14l s14c =>
   CallT Go.Proofs.Try.prog 40 [.agg #[.int .u64 x12, .int .u64 x13, .slice s14p s14l s14c], .slice s8p s8l s8c] (.s (.one .bool)) fun b15 =>
   LoadT (.int .u64) ⟨n9, 0, none⟩ fun x16 =>
   LoadT (.int .u64) ⟨n9, 1, none⟩ fun x17 =>
   LoadT .slice ⟨n9, 2, none⟩ fun s18p s18l s18c =>
   CallT Go.Proofs.Try.prog 41 [.agg #[.int .u64 x16, .int .u64 x17, .slice s18p s18l s18c], .slice s11p s11l s11c] (.s (.one .bool)) fun b19 =>
   BIf (b19 == b15) (
    LoadT (.int .u64) ⟨n9, 0, none⟩ fun x20 =>
    LoadT (.int .u64) ⟨n9, 1, none⟩ fun x21 =>
    LoadT .slice ⟨n9, 2, none⟩ fun s22p s22l s22c =>
    RawT Go.Proofs.Try.prog (convert 44 9 (.slice s8p s8l s8c)) (.s (.one .str)) fun u23 =>
    CallT Go.Proofs.Try.prog 42 [.agg #[.int .u64 x20, .int .u64 x21, .slice s22p s22l s22c], .string u23] (.s (.one .bool)) fun b24 =>
    BIf (b24 == b15) (
     LoadT (.int .u64) ⟨n9, 0, none⟩ fun x25 =>
     LoadT (.int .u64) ⟨n9, 1, none⟩ fun x26 =>
     LoadT .slice ⟨n9, 2, none⟩ fun s27p s27l s27c =>
     RawT Go.Proofs.Try.prog (convert 44 9 (.slice s8p s8l s8c)) (.s (.one .str)) fun u28 =>
     CallT Go.Proofs.Try.prog 43 [.agg #[.int .u64 x25, .int .u64 x26, .slice s27p s27l s27c], .string u28] (.s (.agg [(.int .u64), (.int .u64), .slice])) fun x29 x30 s31p s31l s31c =>
     CallT Go.Proofs.Try.prog 41 [.agg #[.int .u64 x29, .int .u64 x30, .slice s31p s31l s31c], .slice s11p s11l s11c] (.s (.one .bool)) fun b32 =>
     k (.bool b32)) (
     k (.bool false))) (
    k (.bool false))))
theorem F9_eq (k : Value → W) (m_1 : Int) (k_2 : Int) (words_3p : Option Addr) (words_3l : Nat) (words_3c : Nat) (data_4p : Option Addr) (data_4l : Nat) (data_4c : Nat) : compF Go.Proofs.Try.prog Go.Proofs.Try.f9 [] (Go.Proofs.Try.f9.body.getD .skip) [.int .u16 m_1, .int .u8 k_2, .slice words_3p words_3l words_3c, .slice data_4p data_4l data_4c] k = F9 k m_1 k_2 words_3p words_3l words_3c data_4p data_4l data_4c := by kernel_rfl
theorem F9_calls {m_1 : Int} {k_2 : Int} {words_3p : Option Addr} {words_3l : Nat} {words_3c : Nat} {data_4p : Option Addr} {data_4l : Nat} {data_4c : Nat} {w : World} {R : Ending → World → Prop} (h : F9 (fun v w => R (.returned v) w) m_1 k_2 words_3p words_3l words_3c data_4p data_4l data_4c w) : Calls Go.Proofs.Try.prog 9 #[.int .u16 m_1, .int .u8 k_2, .slice words_3p words_3l words_3c, .slice data_4p data_4l data_4c] w R :=
  calls_of_compF noNum follows [] (f := 9) (fn := Go.Proofs.Try.f9) (body := Go.Proofs.Try.f9.body.getD .skip) (args := [.int .u16 m_1, .int .u8 k_2, .slice words_3p words_3l words_3c, .slice data_4p data_4l data_4c]) rfl rfl (Nat.le_of_ble_eq_true rfl) ((congrFun (F9_eq _ m_1 k_2 words_3p words_3l words_3c data_4p data_4l data_4c) w).mpr h)
theorem F9_call {m_1 : Int} {k_2 : Int} {words_3p : Option Addr} {words_3l : Nat} {words_3c : Nat} {data_4p : Option Addr} {data_4l : Nat} {data_4c : Nat} {w : World} {g : Fn W (RTy.leaves (.s (.one .bool)))} (h : F9 (fun v => Back (.s (.one .bool)) g (.returned v)) m_1 k_2 words_3p words_3l words_3c data_4p data_4l data_4c w) : CallT Go.Proofs.Try.prog 9 [.int .u16 m_1, .int .u8 k_2, .slice words_3p words_3l words_3c, .slice data_4p data_4l data_4c] (.s (.one .bool)) g w := F9_calls h

/-! ## impl.BLAdd -/
def F44 (k : Value → W) (x1 : Int) (x2 : Int) (s3p : Option Addr) (s3l : Nat) (s3c : Nat) (data_4p : Option Addr) (data_4l : Nat) (data_4c : Nat) : W :=
 New [.int .u64 x1, .int .u64 x2, .slice s3p s3l s3c] 46 fun n5 =>
 New [.int .u64 0, .int .u64 0, .slice none 0 0] 46 fun n6 =>
 LoadT (.int .u64) ⟨n5, 0, none⟩ fun x7 =>
 LoadT (.int .u64) ⟨n5, 1, none⟩ fun x8 =>
 LoadT .slice ⟨n5, 2, none⟩ fun s9p s9l s9c =>
 CallT Go.Proofs.Try.prog 75 [.agg #[.int .u64 x7, .int .u64 x8, .slice s9p s9l s9c]] (.s (.one .ptr)) fun p10 =>
 CallT Go.Proofs.Try.prog 81 [.pointer p10, .slice data_4p data_4l data_4c] (.s (.one .ptr)) fun p11 =>
 CallT Go.Proofs.Try.prog 79 [.pointer p11] (.s (.agg [(.int .u64), (.int .u64), .slice])) fun x12 x13 s14p s14l s14c =>
 Store1 ⟨n6, 0, none⟩ (.int .u64 x12) <|
 Store1 ⟨n6, 1, none⟩ (.int .u64 x13) <|
 Store1 ⟨n6, 2, none⟩ (.slice s14p s14l s14c) <|
 LoadT (.int .u64) ⟨n6, 0, none⟩ fun x15 =>
 LoadT (.int .u64) ⟨n6, 1, none⟩ fun x16 =>
 LoadT .slice ⟨n6, 2, none⟩ fun s17p s17l s17c =>
 k (.agg #[.int .u64 x15, .int .u64 x16, .slice s17p s17l s17c])
theorem F44_eq (k : Value → W) (x1 : Int) (x2 : Int) (s3p : Option Addr) (s3l : Nat) (s3c : Nat) (data_4p : Option Addr) (data_4l : Nat) (data_4c : Nat) : compF Go.Proofs.Try.prog Go.Proofs.Try.f44 [] (Go.Proofs.Try.f44.body.getD .skip) [.agg #[.int .u64 x1, .int .u64 x2, .slice s3p s3l s3c], .slice data_4p data_4l data_4c] k = F44 k x1 x2 s3p s3l s3c data_4p data_4l data_4c := by kernel_rfl
theorem F44_calls {x1 : Int} {x2 : Int} {s3p : Option Addr} {s3l : Nat} {s3c : Nat} {data_4p : Option Addr} {data_4l : Nat} {data_4c : Nat} {w : World} {R : Ending → World → Prop} (h : F44 (fun v w => R (.returned v) w) x1 x2 s3p s3l s3c data_4p data_4l data_4c w) : Calls Go.Proofs.Try.prog 44 #[.agg #[.int .u64 x1, .int .u64 x2, .slice s3p s3l s3c], .slice data_4p data_4l data_4c] w R :=
  calls_of_compF noNum follows [] (f := 44) (fn := Go.Proofs.Try.f44) (body := Go.Proofs.Try.f44.body.getD .skip) (args := [.agg #[.int .u64 x1, .int .u64 x2, .slice s3p s3l s3c], .slice data_4p data_4l data_4c]) rfl rfl (Nat.le_of_ble_eq_true rfl) ((congrFun (F44_eq _ x1 x2 s3p s3l s3c data_4p data_4l data_4c) w).mpr h)
theorem F44_call {x1 : Int} {x2 : Int} {s3p : Option Addr} {s3l : Nat} {s3c : Nat} {data_4p : Option Addr} {data_4l : Nat} {data_4c : Nat} {w : World} {g : Fn W (RTy.leaves (.s (.agg [(.int .u64), (.int .u64), .slice])))} (h : F44 (fun v => Back (.s (.agg [(.int .u64), (.int .u64), .slice])) g (.returned v)) x1 x2 s3p s3l s3c data_4p data_4l data_4c w) : CallT Go.Proofs.Try.prog 44 [.agg #[.int .u64 x1, .int .u64 x2, .slice s3p s3l s3c], .slice data_4p data_4l data_4c] (.s (.agg [(.int .u64), (.int .u64), .slice])) g w := F44_calls h

/-! ## bitset.BitSet).Equal -/
def F109_L1 (k : Value → W) (again26 : Option Addr → Option Addr → Int → Int → W) (b_22 : Option Addr) (c_23 : Option Addr) (wn_24 : Int) (p_25 : Int) : W :=
 BIf (decide (p_25 < wn_24)) (
  Drw <|
  NN c_23 fun a27 =>
  LoadT .slice (a27.add 1) fun s28p s28l s28c =>
  NN s28p fun a29 =>
  Req (0 ≤ p_25 ∧ p_25 < ((s28l : Nat) : Int)) <|
  LoadT (.int .u64) (a29.add p_25.toNat) fun x30 =>
  NN b_22 fun a31 =>
  LoadT .slice (a31.add 1) fun s32p s32l s32c =>
  NN s32p fun a33 =>
  Req (0 ≤ p_25 ∧ p_25 < ((s32l : Nat) : Int)) <|
  LoadT (.int .u64) (a33.add p_25.toNat) fun x34 =>
  BIf (x30 != x34) (
   k (.bool false)) (
   again26 b_22 c_23 wn_24 (addI .i64 p_25 1))) (
  k (.bool true))
theorem F109_L1_rule {k : Value → W} (I : Option Addr → Option Addr → Int → Int → W) (μ : Option Addr → Option Addr → Int → Int → World → Nat)
  (hr : ∀ (b_22 : Option Addr) (c_23 : Option Addr) (wn_24 : Int) (p_25 : Int) (w : World), I b_22 c_23 wn_24 p_25 w → F109_L1 k (fun b_22' c_23' wn_24' p_25' w' => I b_22' c_23' wn_24' p_25' w' ∧ μ b_22' c_23' wn_24' p_25' w' < μ b_22 c_23 wn_24 p_25 w) b_22 c_23 wn_24 p_25 w)
  {w : World} {b_22 : Option Addr} {c_23 : Option Addr} {wn_24 : Int} {p_25 : Int} (h : I b_22 c_23 wn_24 p_25 w) : Loop [.ptr, .ptr, (.int .i64), (.int .i64)] (F109_L1 k) b_22 c_23 wn_24 p_25 w :=
  Loop_intro (ts := [.ptr, .ptr, (.int .i64), (.int .i64)]) (s := (b_22, c_23, wn_24, p_25, ())) (fun s w => I s.1 s.2.1 s.2.2.1 s.2.2.2.1 w) (fun s w => μ s.1 s.2.1 s.2.2.1 s.2.2.2.1 w) h (fun s w h => hr s.1 s.2.1 s.2.2.1 s.2.2.2.1 w h)
def F109_J1 (k : Value → W) (b_3 : Option Addr) (c_4 : Option Addr) (b5 : Bool) : W :=
 BIf b5 (
  RawS Go.Proofs.Try.prog (binS .eql 64 (.tmp 13) (.tmp 14) (.pointer c_4) (.pointer b_3)) (.s (.one .bool)) fun b6 =>
  k (.bool b6)) (
  Drw <|
  NN b_3 fun a7 =>
  LoadT (.int .u64) a7 fun x8 =>
  NN c_4 fun a9 =>
  LoadT (.int .u64) a9 fun x10 =>
  BIf (x8 != x10) (
   k (.bool false)) (
   NN b_3 fun a11 =>
   LoadT (.int .u64) a11 fun x12 =>
   BIf (x12 == 0) (
    k (.bool true)) (
    CallT Go.Proofs.Try.prog 95 [.pointer b_3] (.s (.one (.int .i64))) fun x13 =>
    BIf (decide (x13 ≤ 0)) (
     k (.bool true)) (
     NN b_3 fun a14 =>
     LoadT .slice (a14.add 1) fun s15p s15l s15c =>
     NN s15p fun a16 =>
     Req (0 ≤ subI .i64 x13 1 ∧ subI .i64 x13 1 < ((s15l : Nat) : Int)) <|
     LoadT (.int .u64) (a16.add ((subI .i64 x13 1).toNat)) fun x17 =>
     NN c_4 fun a18 =>
     LoadT .slice (a18.add 1) fun s19p s19l s19c =>
     NN s19p fun a20 =>
     Req (0 ≤ subI .i64 x13 1 ∧ subI .i64 x13 1 < ((s19l : Nat) : Int)) <|
     LoadT (.int .u64) (a20.add ((subI .i64 x13 1).toNat)) fun x21 =>
     Loop [.ptr, .ptr, (.int .i64), (.int .i64)] (F109_L1 k) b_3 c_4 x13 0))))
def F109 (k : Value → W) (b_1 : Option Addr) (c_2 : Option Addr) : W :=
 BIf c_2.isNone (
  F109_J1 k b_1 c_2 true) (
  F109_J1 k b_1 c_2 b_1.isNone)
theorem F109_eq (k : Value → W) (b_1 : Option Addr) (c_2 : Option Addr) : compF Go.Proofs.Try.prog Go.Proofs.Try.f109 [(13, [(0, .ptr), (1, .ptr), (5, (.int .i64)), (6, (.int .i64))])] (Go.Proofs.Try.f109.body.getD .skip) [.pointer b_1, .pointer c_2] k = F109 k b_1 c_2 := by kernel_rfl
theorem F109_calls {b_1 : Option Addr} {c_2 : Option Addr} {w : World} {R : Ending → World → Prop} (h : F109 (fun v w => R (.returned v) w) b_1 c_2 w) : Calls Go.Proofs.Try.prog 109 #[.pointer b_1, .pointer c_2] w R :=
  calls_of_compF noNum follows [(13, [(0, .ptr), (1, .ptr), (5, (.int .i64)), (6, (.int .i64))])] (f := 109) (fn := Go.Proofs.Try.f109) (body := Go.Proofs.Try.f109.body.getD .skip) (args := [.pointer b_1, .pointer c_2]) rfl rfl (Nat.le_of_ble_eq_true rfl) ((congrFun (F109_eq _ b_1 c_2) w).mpr h)
theorem F109_call {b_1 : Option Addr} {c_2 : Option Addr} {w : World} {g : Fn W (RTy.leaves (.s (.one .bool)))} (h : F109 (fun v => Back (.s (.one .bool)) g (.returned v)) b_1 c_2 w) : CallT Go.Proofs.Try.prog 109 [.pointer b_1, .pointer c_2] (.s (.one .bool)) g w := F109_calls h

/-! ## bloom.BloomFilter).Equal -/
def F82 (k : Value → W) (f_1 : Option Addr) (g_2 : Option Addr) : W :=
 Drw <|
 NN f_1 fun a3 =>
 LoadT (.int .u64) a3 fun x4 =>
 NN g_2 fun a5 =>
 LoadT (.int .u64) a5 fun x6 =>
 BIf (x4 == x6) (
  NN f_1 fun a7 =>
  LoadT (.int .u64) (a7.add 1) fun x8 =>
  NN g_2 fun a9 =>
  LoadT (.int .u64) (a9.add 1) fun x10 =>
  BIf (x8 == x10) (
   NN f_1 fun a11 =>
   LoadT .ptr (a11.add 2) fun p12 =>
   NN g_2 fun a13 =>
   LoadT .ptr (a13.add 2) fun p14 =>
   CallT Go.Proofs.Try.prog 109 [.pointer p12, .pointer p14] (.s (.one .bool)) fun b15 =>
   Chk1 (a9.add 1) (.int .u64 x10) <|
   Chk1 (a7.add 1) (.int .u64 x8) <|
   Chk1 a5 (.int .u64 x6) <|
   Chk1 a3 (.int .u64 x4) <|
   k (.bool b15)) (
   k (.bool false))) (
  k (.bool false))
theorem F82_eq (k : Value → W) (f_1 : Option Addr) (g_2 : Option Addr) : compF Go.Proofs.Try.prog Go.Proofs.Try.f82 [] (Go.Proofs.Try.f82.body.getD .skip) [.pointer f_1, .pointer g_2] k = F82 k f_1 g_2 := by kernel_rfl
theorem F82_calls {f_1 : Option Addr} {g_2 : Option Addr} {w : World} {R : Ending → World → Prop} (h : F82 (fun v w => R (.returned v) w) f_1 g_2 w) : Calls Go.Proofs.Try.prog 82 #[.pointer f_1, .pointer g_2] w R :=
  calls_of_compF noNum follows [] (f := 82) (fn := Go.Proofs.Try.f82) (body := Go.Proofs.Try.f82.body.getD .skip) (args := [.pointer f_1, .pointer g_2]) rfl rfl (Nat.le_of_ble_eq_true rfl) ((congrFun (F82_eq _ f_1 g_2) w).mpr h)
theorem F82_call {f_1 : Option Addr} {g_2 : Option Addr} {w : World} {g : Fn W (RTy.leaves (.s (.one .bool)))} (h : F82 (fun v => Back (.s (.one .bool)) g (.returned v)) f_1 g_2 w) : CallT Go.Proofs.Try.prog 82 [.pointer f_1, .pointer g_2] (.s (.one .bool)) g w := F82_calls h

/-! ## impl.BLEqual -/
def F45 (k : Value → W) (x1 : Int) (x2 : Int) (s3p : Option Addr) (s3l : Nat) (s3c : Nat) (x4 : Int) (x5 : Int) (s6p : Option Addr) (s6l : Nat) (s6c : Nat) : W :=
 New [.int .u64 x1, .int .u64 x2, .slice s3p s3l s3c] 46 fun n7 =>
 New [.int .u64 x4, .int .u64 x5, .slice s6p s6l s6c] 46 fun n8 =>
 Drw <|
 LoadT (.int .u64) ⟨n7, 0, none⟩ fun x9 =>
 LoadT (.int .u64) ⟨n7, 1, none⟩ fun x10 =>
 LoadT .slice ⟨n7, 2, none⟩ fun s11p s11l s11c =>
 LoadT (.int .u64) ⟨n8, 0, none⟩ fun x12 =>
 LoadT (.int .u64) ⟨n8, 1, none⟩ fun x13 =>
 LoadT .slice ⟨n8, 2, none⟩ fun s14p s14l s14c =>
 CallT Go.Proofs.Try.prog 75 [.agg #[.int .u64 x9, .int .u64 x10, .slice s11p s11l s11c]] (.s (.one .ptr)) fun p15 =>
 Chk1 ⟨n8, 0, none⟩ (.int .u64 x12) <|
 Chk1 ⟨n8, 1, none⟩ (.int .u64 x13) <|
 Chk1 ⟨n8, 2, none⟩ (.slice s14p s14l s14c) <|
 CallT Go.Proofs.Try.prog 75 [.agg #[.int .u64 x12, .int .u64 x13, .slice s14p s14l s14c]] (.s (.one .ptr)) fun p16 =>
 Chk1 ⟨n7, 0, none⟩ (.int .u64 x9) <|
 Chk1 ⟨n7, 1, none⟩ (.int .u64 x10) <|
 Chk1 ⟨n7, 2, none⟩ (.slice s11p s11l s11c) <|
 CallT Go.Proofs.Try.prog 82 [.pointer p15, .pointer p16] (.s (.one .bool)) fun b17 =>
 Chk1 ⟨n8, 0, none⟩ (.int .u64 x12) <|
 Chk1 ⟨n8, 1, none⟩ (.int .u64 x13) <|
 Chk1 ⟨n8, 2, none⟩ (.slice s14p s14l s14c) <|
 Chk1 ⟨n7, 0, none⟩ (.int .u64 x9) <|
 Chk1 ⟨n7, 1, none⟩ (.int .u64 x10) <|
 Chk1 ⟨n7, 2, none⟩ (.slice s11p s11l s11c) <|
 k (.bool b17)
theorem F45_eq (k : Value → W) (x1 : Int) (x2 : Int) (s3p : Option Addr) (s3l : Nat) (s3c : Nat) (x4 : Int) (x5 : Int) (s6p : Option Addr) (s6l : Nat) (s6c : Nat) : compF Go.Proofs.Try.prog Go.Proofs.Try.f45 [] (Go.Proofs.Try.f45.body.getD .skip) [.agg #[.int .u64 x1, .int .u64 x2, .slice s3p s3l s3c], .agg #[.int .u64 x4, .int .u64 x5, .slice s6p s6l s6c]] k = F45 k x1 x2 s3p s3l s3c x4 x5 s6p s6l s6c := by kernel_rfl
theorem F45_calls {x1 : Int} {x2 : Int} {s3p : Option Addr} {s3l : Nat} {s3c : Nat} {x4 : Int} {x5 : Int} {s6p : Option Addr} {s6l : Nat} {s6c : Nat} {w : World} {R : Ending → World → Prop} (h : F45 (fun v w => R (.returned v) w) x1 x2 s3p s3l s3c x4 x5 s6p s6l s6c w) : Calls Go.Proofs.Try.prog 45 #[.agg #[.int .u64 x1, .int .u64 x2, .slice s3p s3l s3c], .agg #[.int .u64 x4, .int .u64 x5, .slice s6p s6l s6c]] w R :=
  calls_of_compF noNum follows [] (f := 45) (fn := Go.Proofs.Try.f45) (body := Go.Proofs.Try.f45.body.getD .skip) (args := [.agg #[.int .u64 x1, .int .u64 x2, .slice s3p s3l s3c], .agg #[.int .u64 x4, .int .u64 x5, .slice s6p s6l s6c]]) rfl rfl (Nat.le_of_ble_eq_true rfl) ((congrFun (F45_eq _ x1 x2 s3p s3l s3c x4 x5 s6p s6l s6c) w).mpr h)
theorem F45_call {x1 : Int} {x2 : Int} {s3p : Option Addr} {s3l : Nat} {s3c : Nat} {x4 : Int} {x5 : Int} {s6p : Option Addr} {s6l : Nat} {s6c : Nat} {w : World} {g : Fn W (RTy.leaves (.s (.one .bool)))} (h : F45 (fun v => Back (.s (.one .bool)) g (.returned v)) x1 x2 s3p s3l s3c x4 x5 s6p s6l s6c w) : CallT Go.Proofs.Try.prog 45 [.agg #[.int .u64 x1, .int .u64 x2, .slice s3p s3l s3c], .agg #[.int .u64 x4, .int .u64 x5, .slice s6p s6l s6c]] (.s (.one .bool)) g w := F45_calls h

/-! ## laws.FnBLDeepOrder -/
def F10 (k : Value → W) (m_1 : Int) (k_2 : Int) (words_3p : Option Addr) (words_3l : Nat) (words_3c : Nat) (one_4p : Option Addr) (one_4l : Nat) (one_4c : Nat) (two_5p : Option Addr) (two_5l : Nat) (two_5c : Nat) : W :=
 BIf (decide (((words_3l : Nat) : Int) > 2147483647)) (
  k (.bool true)) (
  BIf (decide (((one_4l : Nat) : Int) > 2147483647)) (
   k (.bool true)) (
   BIf (decide (((two_5l : Nat) : Int) > 2147483647)) (
    k (.bool true)) (
    CallT Go.Proofs.Try.prog 37 [.int .u16 m_1, .int .u8 k_2, .slice words_3p words_3l words_3c] (.s (.agg [(.int .u64), (.int .u64), .slice])) fun x6 x7 s8p s8l s8c =>
    CallT Go.Proofs.Try.prog 38 [.slice one_4p one_4l one_4c] (.s (.one .slice)) fun s9p s9l s9c =>
    CallT Go.Proofs.Try.prog 38 [.slice two_5p two_5l two_5c] (.s (.one .slice)) fun s10p s10l s10c =>
    New [.int .u64 0, .int .u64 0, .slice none 0 0] 46 fun n11 =>
    Store1 ⟨n11, 0, none⟩ (.int .u64 x6) <|
    Store1 ⟨n11, 1, none⟩ (.int .u64 x7) <|
    Store1 ⟨n11, 2, none⟩ (.slice s8p s8l s8c) <|
    LoadT (.int .u64) ⟨n11, 0, none⟩ fun x12 =>
    LoadT (.int .u64) ⟨n11, 1, none⟩ fun x13 =>
    LoadT .slice ⟨n11, 2, none⟩ fun s14p s14l s14c =>
    CallT Go.Proofs.Try.prog 44 [.agg #[.int .u64 x12, .int .u64 x13, .slice s14p s14l s14c], .slice s9p s9l s9c] (.s (.agg [(.int .u64), (.int .u64), .slice])) fun x15 x16 s17p s17l s17c =>
    CallT Go.Proofs.Try.prog 44 [.agg #[.int .u64 x15, .int .u64 x16, .slice s17p s17l s17c], .slice s10p s10l s10c] (.s (.agg [(.int .u64), (.int .u64), .slice])) fun x18 x19 s20p s20l s20c =>
    New [.int .u64 0, .int .u64 0, .slice none 0 0] 46 fun n21 =>
    Store1 ⟨n21, 0, none⟩ (.int .u64 x18) <|
    Store1 ⟨n21, 1, none⟩ (.int .u64 x19) <|
    Store1 ⟨n21, 2, none⟩ (.slice s20p s20l s20c) <|
    Drw <|
    LoadT (.int .u64) ⟨n21, 0, none⟩ fun x22 =>
    LoadT (.int .u64) ⟨n21, 1, none⟩ fun x23 =>
    LoadT .slice ⟨n21, 2, none⟩ fun s24p s24l s24c =>
    LoadT (.int .u64) ⟨n11, 0, none⟩ fun x25 =>
    LoadT (.int .u64) ⟨n11, 1, none⟩ fun x26 =>
    LoadT .slice ⟨n11, 2, none⟩ fun s27p s27l s27c =>
    CallT Go.Proofs.Try.prog 44 [.agg #[.int .u64 x25, .int .u64 x26, .slice s27p s27l s27c], .slice s10p s10l s10c] (.s (.agg [(.int .u64), (.int .u64), .slice])) fun x28 x29 s30p s30l s30c =>
    Chk1 ⟨n21, 0, none⟩ (.int .u64 x22) <|
    Chk1 ⟨n21, 1, none⟩ (.int .u64 x23) <|
    Chk1 ⟨n21, 2, none⟩ (.slice s24p s24l s24c) <|
    CallT Go.Proofs.Try.prog 44 [.agg #[.int .u64 x28, .int .u64 x29, .slice s30p s30l s30c], .slice s9p s9l s9c] (.s (.agg [(.int .u64), (.int .u64), .slice])) fun x31 x32 s33p s33l s33c =>
    Chk1 ⟨n11, 0, none⟩ (.int .u64 x25) <|
    Chk1 ⟨n11, 1, none⟩ (.int .u64 x26) <|
    Chk1 ⟨n11, 2, none⟩ (.slice s27p s27l s27c) <|
    Chk1 ⟨n21, 0, none⟩ (.int .u64 x22) <|
    Chk1 ⟨n21, 1, none⟩ (.int .u64 x23) <|
    Chk1 ⟨n21, 2, none⟩ (.slice s24p s24l s24c) <|
    CallT Go.Proofs.Try.prog 45 [.agg #[.int .u64 x22, .int .u64 x23, .slice s24p s24l s24c], .agg #[.int .u64 x31, .int .u64 x32, .slice s33p s33l s33c]] (.s (.one .bool)) fun b34 =>
    Chk1 ⟨n11, 0, none⟩ (.int .u64 x25) <|
    Chk1 ⟨n11, 1, none⟩ (.int .u64 x26) <|
    Chk1 ⟨n11, 2, none⟩ (.slice s27p s27l s27c) <|
    BIf b34 (
     LoadT (.int .u64) ⟨n21, 0, none⟩ fun x35 =>
     LoadT (.int .u64) ⟨n21, 1, none⟩ fun x36 =>
     LoadT .slice ⟨n21, 2, none⟩ fun s37p s37l s37c =>
     LoadT (.int .u64) ⟨n21, 0, none⟩ fun x38 =>
     LoadT (.int .u64) ⟨n21, 1, none⟩ fun x39 =>
     LoadT .slice ⟨n21, 2, none⟩ fun s40p s40l s40c =>
     CallT Go.Proofs.Try.prog 44 [.agg #[.int .u64 x38, .int .u64 x39, .slice s40p s40l s40c], .slice s9p s9l s9c] (.s (.agg [(.int .u64), (.int .u64), .slice])) fun x41 x42 s43p s43l s43c =>
     Chk1 ⟨n21, 0, none⟩ (.int .u64 x35) <|
     Chk1 ⟨n21, 1, none⟩ (.int .u64 x36) <|
     Chk1 ⟨n21, 2, none⟩ (.slice s37p s37l s37c) <|
     Chk1 ⟨n11, 0, none⟩ (.int .u64 x25) <|
     Chk1 ⟨n11, 1, none⟩ (.int .u64 x26) <|
     Chk1 ⟨n11, 2, none⟩ (.slice s27p s27l s27c) <|
     Chk1 ⟨n21, 0, none⟩ (.int .u64 x22) <|
     Chk1 ⟨n21, 1, none⟩ (.int .u64 x23) <|
     Chk1 ⟨n21, 2, none⟩ (.slice s24p s24l s24c) <|
     CallT Go.Proofs.Try.prog 45 [.agg #[.int .u64 x35, .int .u64 x36, .slice s37p s37l s37c], .agg #[.int .u64 x41, .int .u64 x42, .slice s43p s43l s43c]] (.s (.one .bool)) fun b44 =>
     Chk1 ⟨n21, 0, none⟩ (.int .u64 x38) <|
     Chk1 ⟨n21, 1, none⟩ (.int .u64 x39) <|
     Chk1 ⟨n21, 2, none⟩ (.slice s40p s40l s40c) <|
     Chk1 ⟨n11, 0, none⟩ (.int .u64 x25) <|
     Chk1 ⟨n11, 1, none⟩ (.int .u64 x26) <|
     Chk1 ⟨n11, 2, none⟩ (.slice s27p s27l s27c) <|
     Chk1 ⟨n21, 0, none⟩ (.int .u64 x22) <|
     Chk1 ⟨n21, 1, none⟩ (.int .u64 x23) <|
     Chk1 ⟨n21, 2, none⟩ (.slice s24p s24l s24c) <|
     BIf b44 (
      LoadT (.int .u64) ⟨n21, 0, none⟩ fun x45 =>
      LoadT (.int .u64) ⟨n21, 1, none⟩ fun x46 =>
      LoadT .slice ⟨n21, 2, none⟩ fun s47p s47l s47c =>
      CallT Go.Proofs.Try.prog 40 [.agg #[.int .u64 x45, .int .u64 x46, .slice s47p s47l s47c], .slice s9p s9l s9c] (.s (.one .bool)) fun b48 =>
      Chk1 ⟨n21, 0, none⟩ (.int .u64 x38) <|
      Chk1 ⟨n21, 1, none⟩ (.int .u64 x39) <|
      Chk1 ⟨n21, 2, none⟩ (.slice s40p s40l s40c) <|
      Chk1 ⟨n21, 0, none⟩ (.int .u64 x35) <|
      Chk1 ⟨n21, 1, none⟩ (.int .u64 x36) <|
      Chk1 ⟨n21, 2, none⟩ (.slice s37p s37l s37c) <|
      Chk1 ⟨n11, 0, none⟩ (.int .u64 x25) <|
      Chk1 ⟨n11, 1, none⟩ (.int .u64 x26) <|
      Chk1 ⟨n11, 2, none⟩ (.slice s27p s27l s27c) <|
      Chk1 ⟨n21, 0, none⟩ (.int .u64 x22) <|
      Chk1 ⟨n21, 1, none⟩ (.int .u64 x23) <|
      Chk1 ⟨n21, 2, none⟩ (.slice s24p s24l s24c) <|
      BIf b48 (
       LoadT (.int .u64) ⟨n21, 0, none⟩ fun x49 =>
       LoadT (.int .u64) ⟨n21, 1, none⟩ fun x50 =>
       LoadT .slice ⟨n21, 2, none⟩ fun s51p s51l s51c =>
       CallT Go.Proofs.Try.prog 40 [.agg #[.int .u64 x49, .int .u64 x50, .slice s51p s51l s51c], .slice s10p s10l s10c] (.s (.one .bool)) fun b52 =>
       Chk1 ⟨n21, 0, none⟩ (.int .u64 x45) <|
       Chk1 ⟨n21, 1, none⟩ (.int .u64 x46) <|
       Chk1 ⟨n21, 2, none⟩ (.slice s47p s47l s47c) <|
       Chk1 ⟨n21, 0, none⟩ (.int .u64 x38) <|
       Chk1 ⟨n21, 1, none⟩ (.int .u64 x39) <|
       Chk1 ⟨n21, 2, none⟩ (.slice s40p s40l s40c) <|
       Chk1 ⟨n21, 0, none⟩ (.int .u64 x35) <|
       Chk1 ⟨n21, 1, none⟩ (.int .u64 x36) <|
       Chk1 ⟨n21, 2, none⟩ (.slice s37p s37l s37c) <|
       Chk1 ⟨n11, 0, none⟩ (.int .u64 x25) <|
       Chk1 ⟨n11, 1, none⟩ (.int .u64 x26) <|
       Chk1 ⟨n11, 2, none⟩ (.slice s27p s27l s27c) <|
       Chk1 ⟨n21, 0, none⟩ (.int .u64 x22) <|
       Chk1 ⟨n21, 1, none⟩ (.int .u64 x23) <|
       Chk1 ⟨n21, 2, none⟩ (.slice s24p s24l s24c) <|
       k (.bool b52)) (
       k (.bool false))) (
      k (.bool false))) (
     k (.bool false)))))
theorem F10_eq (k : Value → W) (m_1 : Int) (k_2 : Int) (words_3p : Option Addr) (words_3l : Nat) (words_3c : Nat) (one_4p : Option Addr) (one_4l : Nat) (one_4c : Nat) (two_5p : Option Addr) (two_5l : Nat) (two_5c : Nat) : compF Go.Proofs.Try.prog Go.Proofs.Try.f10 [] (Go.Proofs.Try.f10.body.getD .skip) [.int .u16 m_1, .int .u8 k_2, .slice words_3p words_3l words_3c, .slice one_4p one_4l one_4c, .slice two_5p two_5l two_5c] k = F10 k m_1 k_2 words_3p words_3l words_3c one_4p one_4l one_4c two_5p two_5l two_5c := by kernel_rfl
theorem F10_calls {m_1 : Int} {k_2 : Int} {words_3p : Option Addr} {words_3l : Nat} {words_3c : Nat} {one_4p : Option Addr} {one_4l : Nat} {one_4c : Nat} {two_5p : Option Addr} {two_5l : Nat} {two_5c : Nat} {w : World} {R : Ending → World → Prop} (h : F10 (fun v w => R (.returned v) w) m_1 k_2 words_3p words_3l words_3c one_4p one_4l one_4c two_5p two_5l two_5c w) : Calls Go.Proofs.Try.prog 10 #[.int .u16 m_1, .int .u8 k_2, .slice words_3p words_3l words_3c, .slice one_4p one_4l one_4c, .slice two_5p two_5l two_5c] w R :=
  calls_of_compF noNum follows [] (f := 10) (fn := Go.Proofs.Try.f10) (body := Go.Proofs.Try.f10.body.getD .skip) (args := [.int .u16 m_1, .int .u8 k_2, .slice words_3p words_3l words_3c, .slice one_4p one_4l one_4c, .slice two_5p two_5l two_5c]) rfl rfl (Nat.le_of_ble_eq_true rfl) ((congrFun (F10_eq _ m_1 k_2 words_3p words_3l words_3c one_4p one_4l one_4c two_5p two_5l two_5c) w).mpr h)
theorem F10_call {m_1 : Int} {k_2 : Int} {words_3p : Option Addr} {words_3l : Nat} {words_3c : Nat} {one_4p : Option Addr} {one_4l : Nat} {one_4c : Nat} {two_5p : Option Addr} {two_5l : Nat} {two_5c : Nat} {w : World} {g : Fn W (RTy.leaves (.s (.one .bool)))} (h : F10 (fun v => Back (.s (.one .bool)) g (.returned v)) m_1 k_2 words_3p words_3l words_3c one_4p one_4l one_4c two_5p two_5l two_5c w) : CallT Go.Proofs.Try.prog 10 [.int .u16 m_1, .int .u8 k_2, .slice words_3p words_3l words_3c, .slice one_4p one_4l one_4c, .slice two_5p two_5l two_5c] (.s (.one .bool)) g w := F10_calls h

/-! ## errors.New -/
def F110 (k : Value → W) (text_1 : ByteArray) : W :=
 New [.string text_1] 121 fun n2 =>
 k (.iface 119 (.pointer (some ⟨n2, 0, none⟩)))
theorem F110_eq (k : Value → W) (text_1 : ByteArray) : compF Go.Proofs.Try.prog Go.Proofs.Try.f110 [] (Go.Proofs.Try.f110.body.getD .skip) [.string text_1] k = F110 k text_1 := by kernel_rfl
theorem F110_calls {text_1 : ByteArray} {w : World} {R : Ending → World → Prop} (h : F110 (fun v w => R (.returned v) w) text_1 w) : Calls Go.Proofs.Try.prog 110 #[.string text_1] w R :=
  calls_of_compF noNum follows [] (f := 110) (fn := Go.Proofs.Try.f110) (body := Go.Proofs.Try.f110.body.getD .skip) (args := [.string text_1]) rfl rfl (Nat.le_of_ble_eq_true rfl) ((congrFun (F110_eq _ text_1) w).mpr h)
theorem F110_call {text_1 : ByteArray} {w : World} {g : Fn W (RTy.leaves (.s (.one .any)))} (h : F110 (fun v => Back (.s (.one .any)) g (.returned v)) text_1 w) : CallT Go.Proofs.Try.prog 110 [.string text_1] (.s (.one .any)) g w := F110_calls h

/-! ## bitset.BitSet).InPlaceUnion -/
def F111_L2 (k : Value → W) (again52 : Option Addr → Option Addr → Int → W) (b_49 : Option Addr) (compare_50 : Option Addr) (i_51 : Int) : W :=
 NN compare_50 fun a53 =>
 LoadT .slice (a53.add 1) fun s54p s54l s54c =>
 BIf (decide (i_51 < ((s54l : Nat) : Int))) (
  Drw <|
  NN b_49 fun a55 =>
  LoadT .slice (a55.add 1) fun s56p s56l s56c =>
  NN compare_50 fun a57 =>
  LoadT .slice (a57.add 1) fun s58p s58l s58c =>
  NN s58p fun a59 =>
  Req (0 ≤ i_51 ∧ i_51 < ((s58l : Nat) : Int)) <|
  LoadT (.int .u64) (a59.add i_51.toNat) fun x60 =>
  NN s56p fun a61 =>
  Req (0 ≤ i_51 ∧ i_51 < ((s56l : Nat) : Int)) <|
  Store1 (a61.add i_51.toNat) (.int .u64 x60) <|
  again52 b_49 compare_50 (addI .i64 i_51 1)) (
  k (.tuple #[]))
theorem F111_L2_rule {k : Value → W} (I : Option Addr → Option Addr → Int → W) (μ : Option Addr → Option Addr → Int → World → Nat)
  (hr : ∀ (b_49 : Option Addr) (compare_50 : Option Addr) (i_51 : Int) (w : World), I b_49 compare_50 i_51 w → F111_L2 k (fun b_49' compare_50' i_51' w' => I b_49' compare_50' i_51' w' ∧ μ b_49' compare_50' i_51' w' < μ b_49 compare_50 i_51 w) b_49 compare_50 i_51 w)
  {w : World} {b_49 : Option Addr} {compare_50 : Option Addr} {i_51 : Int} (h : I b_49 compare_50 i_51 w) : Loop [.ptr, .ptr, (.int .i64)] (F111_L2 k) b_49 compare_50 i_51 w :=
  Loop_intro (ts := [.ptr, .ptr, (.int .i64)]) (s := (b_49, compare_50, i_51, ())) (fun s w => I s.1 s.2.1 s.2.2.1 w) (fun s w => μ s.1 s.2.1 s.2.2.1 w) h (fun s w h => hr s.1 s.2.1 s.2.2.1 w h)
def F111_J4 (k : Value → W) (b_44 : Option Addr) (compare_45 : Option Addr) (l_46 : Int) : W :=
 NN compare_45 fun a47 =>
 LoadT .slice (a47.add 1) fun s48p s48l s48c =>
 BIf (decide (((s48l : Nat) : Int) > l_46)) (
  Loop [.ptr, .ptr, (.int .i64)] (F111_L2 k) b_44 compare_45 l_46) (
  k (.tuple #[]))
def F111_L1 (k : Value → W) (again38 : Option Addr → Option Addr → Int → Option Addr → Nat → Nat → Option Addr → Nat → Nat → Int → W) (b_32 : Option Addr) (compare_33 : Option Addr) (l_34 : Int) (data_35p : Option Addr) (data_35l : Nat) (data_35c : Nat) (cmpData_36p : Option Addr) (cmpData_36l : Nat) (cmpData_36c : Nat) (i_37 : Int) : W :=
 BIf (decide (i_37 < l_34)) (
  Drw <|
  NN data_35p fun a39 =>
  Req (0 ≤ i_37 ∧ i_37 < ((data_35l : Nat) : Int)) <|
  LoadT (.int .u64) (a39.add i_37.toNat) fun x40 =>
  NN cmpData_36p fun a41 =>
  Req (0 ≤ i_37 ∧ i_37 < ((cmpData_36l : Nat) : Int)) <|
  LoadT (.int .u64) (a41.add i_37.toNat) fun x42 =>
  NN data_35p fun a43 =>
  Req (0 ≤ i_37 ∧ i_37 < ((data_35l : Nat) : Int)) <|
  Store1 (a43.add i_37.toNat) (.int .u64 (orI .u64 x40 x42)) <|
  again38 b_32 compare_33 l_34 data_35p data_35l data_35c cmpData_36p cmpData_36l cmpData_36c (addI .i64 i_37 1)) (
  F111_J4 k b_32 compare_33 l_34)
theorem F111_L1_rule {k : Value → W} (I : Option Addr → Option Addr → Int → Option Addr → Nat → Nat → Option Addr → Nat → Nat → Int → W) (μ : Option Addr → Option Addr → Int → Option Addr → Nat → Nat → Option Addr → Nat → Nat → Int → World → Nat)
  (hr : ∀ (b_32 : Option Addr) (compare_33 : Option Addr) (l_34 : Int) (data_35p : Option Addr) (data_35l : Nat) (data_35c : Nat) (cmpData_36p : Option Addr) (cmpData_36l : Nat) (cmpData_36c : Nat) (i_37 : Int) (w : World), I b_32 compare_33 l_34 data_35p data_35l data_35c cmpData_36p cmpData_36l cmpData_36c i_37 w → F111_L1 k (fun b_32' compare_33' l_34' data_35p' data_35l' data_35c' cmpData_36p' cmpData_36l' cmpData_36c' i_37' w' => I b_32' compare_33' l_34' data_35p' data_35l' data_35c' cmpData_36p' cmpData_36l' cmpData_36c' i_37' w' ∧ μ b_32' compare_33' l_34' data_35p' data_35l' data_35c' cmpData_36p' cmpData_36l' cmpData_36c' i_37' w' < μ b_32 compare_33 l_34 data_35p data_35l data_35c cmpData_36p cmpData_36l cmpData_36c i_37 w) b_32 compare_33 l_34 data_35p data_35l data_35c cmpData_36p cmpData_36l cmpData_36c i_37 w)
  {w : World} {b_32 : Option Addr} {compare_33 : Option Addr} {l_34 : Int} {data_35p : Option Addr} {data_35l : Nat} {data_35c : Nat} {cmpData_36p : Option Addr} {cmpData_36l : Nat} {cmpData_36c : Nat} {i_37 : Int} (h : I b_32 compare_33 l_34 data_35p data_35l data_35c cmpData_36p cmpData_36l cmpData_36c i_37 w) : Loop [.ptr, .ptr, (.int .i64), .slice, .slice, (.int .i64)] (F111_L1 k) b_32 compare_33 l_34 data_35p data_35l data_35c cmpData_36p cmpData_36l cmpData_36c i_37 w :=
  Loop_intro (ts := [.ptr, .ptr, (.int .i64), .slice, .slice, (.int .i64)]) (s := (b_32, compare_33, l_34, (data_35p, data_35l, data_35c), (cmpData_36p, cmpData_36l, cmpData_36c), i_37, ())) (fun s w => I s.1 s.2.1 s.2.2.1 s.2.2.2.1.1 s.2.2.2.1.2.1 s.2.2.2.1.2.2 s.2.2.2.2.1.1 s.2.2.2.2.1.2.1 s.2.2.2.2.1.2.2 s.2.2.2.2.2.1 w) (fun s w => μ s.1 s.2.1 s.2.2.1 s.2.2.2.1.1 s.2.2.2.1.2.1 s.2.2.2.1.2.2 s.2.2.2.2.1.1 s.2.2.2.2.1.2.1 s.2.2.2.2.1.2.2 s.2.2.2.2.2.1 w) h (fun s w h => hr s.1 s.2.1 s.2.2.1 s.2.2.2.1.1 s.2.2.2.1.2.1 s.2.2.2.1.2.2 s.2.2.2.2.1.1 s.2.2.2.2.1.2.1 s.2.2.2.2.1.2.2 s.2.2.2.2.2.1 w h)
def F111_J3 (k : Value → W) (b_21 : Option Addr) (compare_22 : Option Addr) (l_23 : Int) : W :=
 BIf (decide (l_23 > 0)) (
  Drw <|
  NN b_21 fun a24 =>
  LoadT .slice (a24.add 1) fun s25p s25l s25c =>
  NN compare_22 fun a26 =>
  LoadT .slice (a26.add 1) fun s27p s27l s27c =>
  NN s25p fun a28 =>
  Req (0 ≤ subI .i64 l_23 1 ∧ subI .i64 l_23 1 < ((s25l : Nat) : Int)) <|
  LoadT (.int .u64) (a28.add ((subI .i64 l_23 1).toNat)) fun x29 =>
  NN s27p fun a30 =>
  Req (0 ≤ subI .i64 l_23 1 ∧ subI .i64 l_23 1 < ((s27l : Nat) : Int)) <|
  LoadT (.int .u64) (a30.add ((subI .i64 l_23 1).toNat)) fun x31 =>
  Loop [.ptr, .ptr, (.int .i64), .slice, .slice, (.int .i64)] (F111_L1 k) b_21 compare_22 l_23 s25p s25l s25c s27p s27l s27c 0) (
  F111_J4 k b_21 compare_22 l_23)
def F111_J2 (k : Value → W) (b_15 : Option Addr) (compare_16 : Option Addr) (l_17 : Int) (b18 : Bool) : W :=
 BIf b18 (
  NN compare_16 fun a19 =>
  LoadT (.int .u64) a19 fun x20 =>
  CallT Go.Proofs.Try.prog 87 [.pointer b_15, .int .u64 (subI .u64 x20 1)] (.tup []) <|
  F111_J3 k b_15 compare_16 l_17) (
  F111_J3 k b_15 compare_16 l_17)
def F111_J1 (k : Value → W) (b_6 : Option Addr) (compare_7 : Option Addr) (l_8 : Int) : W :=
 Drw <|
 NN compare_7 fun a9 =>
 LoadT (.int .u64) a9 fun x10 =>
 BIf (decide (x10 > 0)) (
  NN compare_7 fun a11 =>
  LoadT (.int .u64) a11 fun x12 =>
  NN b_6 fun a13 =>
  LoadT (.int .u64) a13 fun x14 =>
  F111_J2 k b_6 compare_7 l_8 (decide ((subI .u64 x12 1) ≥ x14))) (
  F111_J2 k b_6 compare_7 l_8 false)
def F111 (k : Value → W) (b_1 : Option Addr) (compare_2 : Option Addr) : W :=
 CallT Go.Proofs.Try.prog 89 [.pointer b_1] (.tup []) <|
 CallT Go.Proofs.Try.prog 89 [.pointer compare_2] (.tup []) <|
 CallT Go.Proofs.Try.prog 95 [.pointer compare_2] (.s (.one (.int .i64))) fun x3 =>
 CallT Go.Proofs.Try.prog 95 [.pointer b_1] (.s (.one (.int .i64))) fun x4 =>
 BIf (decide (x3 > x4)) (
  CallT Go.Proofs.Try.prog 95 [.pointer b_1] (.s (.one (.int .i64))) fun x5 =>
  F111_J1 k b_1 compare_2 x5) (
  F111_J1 k b_1 compare_2 x3)
theorem F111_eq (k : Value → W) (b_1 : Option Addr) (compare_2 : Option Addr) : compF Go.Proofs.Try.prog Go.Proofs.Try.f111 [(12, [(0, .ptr), (1, .ptr), (4, (.int .i64)), (5, .slice), (6, .slice), (7, (.int .i64))]), (17, [(0, .ptr), (1, .ptr), (8, (.int .i64))])] (Go.Proofs.Try.f111.body.getD .skip) [.pointer b_1, .pointer compare_2] k = F111 k b_1 compare_2 := by kernel_rfl
theorem F111_calls {b_1 : Option Addr} {compare_2 : Option Addr} {w : World} {R : Ending → World → Prop} (h : F111 (fun v w => R (.returned v) w) b_1 compare_2 w) : Calls Go.Proofs.Try.prog 111 #[.pointer b_1, .pointer compare_2] w R :=
  calls_of_compF noNum follows [(12, [(0, .ptr), (1, .ptr), (4, (.int .i64)), (5, .slice), (6, .slice), (7, (.int .i64))]), (17, [(0, .ptr), (1, .ptr), (8, (.int .i64))])] (f := 111) (fn := Go.Proofs.Try.f111) (body := Go.Proofs.Try.f111.body.getD .skip) (args := [.pointer b_1, .pointer compare_2]) rfl rfl (Nat.le_of_ble_eq_true rfl) ((congrFun (F111_eq _ b_1 compare_2) w).mpr h)
theorem F111_call {b_1 : Option Addr} {compare_2 : Option Addr} {w : World} {g : Fn W (RTy.leaves (.tup []))} (h : F111 (fun v => Back (.tup []) g (.returned v)) b_1 compare_2 w) : CallT Go.Proofs.Try.prog 111 [.pointer b_1, .pointer compare_2] (.tup []) g w := F111_calls h

/-! ## bloom.BloomFilter).Merge -/
def F83 (k : Value → W) (f_1 : Option Addr) (g_2 : Option Addr) : W :=
 Drw <|
 NN f_1 fun a3 =>
 LoadT (.int .u64) a3 fun x4 =>
 NN g_2 fun a5 =>
 LoadT (.int .u64) a5 fun x6 =>
 BIf (x4 != x6) (
  CallT Go.Proofs.Try.prog 110 [.string ⟨#[109, 39, 115, 32, 100, 111, 110, 39, 116, 32, 109, 97, 116, 99, 104]⟩] (.s (.one .any)) fun v7 =>
  k v7) (
  Drw <|
  NN f_1 fun a8 =>
  LoadT (.int .u64) (a8.add 1) fun x9 =>
  NN g_2 fun a10 =>
  LoadT (.int .u64) (a10.add 1) fun x11 =>
  BIf (x9 != x11) (
   CallT Go.Proofs.Try.prog 110 [.string ⟨#[107, 39, 115, 32, 100, 111, 110, 39, 116, 32, 109, 97, 116, 99, 104]⟩] (.s (.one .any)) fun v12 =>
   k v12) (
   Drw <|
   NN f_1 fun a13 =>
   LoadT .ptr (a13.add 2) fun p14 =>
   NN g_2 fun a15 =>
   LoadT .ptr (a15.add 2) fun p16 =>
   CallT Go.Proofs.Try.prog 111 [.pointer p14, .pointer p16] (.tup []) <|
   k .nilIface))
theorem F83_eq (k : Value → W) (f_1 : Option Addr) (g_2 : Option Addr) : compF Go.Proofs.Try.prog Go.Proofs.Try.f83 [] (Go.Proofs.Try.f83.body.getD .skip) [.pointer f_1, .pointer g_2] k = F83 k f_1 g_2 := by kernel_rfl
theorem F83_calls {f_1 : Option Addr} {g_2 : Option Addr} {w : World} {R : Ending → World → Prop} (h : F83 (fun v w => R (.returned v) w) f_1 g_2 w) : Calls Go.Proofs.Try.prog 83 #[.pointer f_1, .pointer g_2] w R :=
  calls_of_compF noNum follows [] (f := 83) (fn := Go.Proofs.Try.f83) (body := Go.Proofs.Try.f83.body.getD .skip) (args := [.pointer f_1, .pointer g_2]) rfl rfl (Nat.le_of_ble_eq_true rfl) ((congrFun (F83_eq _ f_1 g_2) w).mpr h)
theorem F83_call {f_1 : Option Addr} {g_2 : Option Addr} {w : World} {g : Fn W (RTy.leaves (.s (.one .any)))} (h : F83 (fun v => Back (.s (.one .any)) g (.returned v)) f_1 g_2 w) : CallT Go.Proofs.Try.prog 83 [.pointer f_1, .pointer g_2] (.s (.one .any)) g w := F83_calls h

/-! ## impl.BLMerge -/
def F46 (k : Value → W) (x1 : Int) (x2 : Int) (s3p : Option Addr) (s3l : Nat) (s3c : Nat) (x4 : Int) (x5 : Int) (s6p : Option Addr) (s6l : Nat) (s6c : Nat) : W :=
 New [.int .u64 x1, .int .u64 x2, .slice s3p s3l s3c] 46 fun n7 =>
 New [.int .u64 x4, .int .u64 x5, .slice s6p s6l s6c] 46 fun n8 =>
 New [.int .u64 0, .int .u64 0, .slice none 0 0] 46 fun n9 =>
 LoadT (.int .u64) ⟨n7, 0, none⟩ fun x10 =>
 LoadT (.int .u64) ⟨n7, 1, none⟩ fun x11 =>
 LoadT .slice ⟨n7, 2, none⟩ fun s12p s12l s12c =>
 CallT Go.Proofs.Try.prog 75 [.agg #[.int .u64 x10, .int .u64 x11, .slice s12p s12l s12c]] (.s (.one .ptr)) fun p13 =>
 LoadT (.int .u64) ⟨n8, 0, none⟩ fun x14 =>
 LoadT (.int .u64) ⟨n8, 1, none⟩ fun x15 =>
 LoadT .slice ⟨n8, 2, none⟩ fun s16p s16l s16c =>
 CallT Go.Proofs.Try.prog 75 [.agg #[.int .u64 x14, .int .u64 x15, .slice s16p s16l s16c]] (.s (.one .ptr)) fun p17 =>
 CallT Go.Proofs.Try.prog 83 [.pointer p13, .pointer p17] (.s (.one .any)) fun v18 =>
 Drw <|
 IfaceNil v18 fun b19 =>
 CallT Go.Proofs.Try.prog 79 [.pointer p13] (.s (.agg [(.int .u64), (.int .u64), .slice])) fun x20 x21 s22p s22l s22c =>
 Store1 ⟨n9, 0, none⟩ (.int .u64 x20) <|
 Store1 ⟨n9, 1, none⟩ (.int .u64 x21) <|
 Store1 ⟨n9, 2, none⟩ (.slice s22p s22l s22c) <|
 LoadT (.int .u64) ⟨n9, 0, none⟩ fun x23 =>
 LoadT (.int .u64) ⟨n9, 1, none⟩ fun x24 =>
 LoadT .slice ⟨n9, 2, none⟩ fun s25p s25l s25c =>
 k (.tuple #[.agg #[.int .u64 x23, .int .u64 x24, .slice s25p s25l s25c], .bool b19])
theorem F46_eq (k : Value → W) (x1 : Int) (x2 : Int) (s3p : Option Addr) (s3l : Nat) (s3c : Nat) (x4 : Int) (x5 : Int) (s6p : Option Addr) (s6l : Nat) (s6c : Nat) : compF Go.Proofs.Try.prog Go.Proofs.Try.f46 [] (Go.Proofs.Try.f46.body.getD .skip) [.agg #[.int .u64 x1, .int .u64 x2, .slice s3p s3l s3c], .agg #[.int .u64 x4, .int .u64 x5, .slice s6p s6l s6c]] k = F46 k x1 x2 s3p s3l s3c x4 x5 s6p s6l s6c := by kernel_rfl
theorem F46_calls {x1 : Int} {x2 : Int} {s3p : Option Addr} {s3l : Nat} {s3c : Nat} {x4 : Int} {x5 : Int} {s6p : Option Addr} {s6l : Nat} {s6c : Nat} {w : World} {R : Ending → World → Prop} (h : F46 (fun v w => R (.returned v) w) x1 x2 s3p s3l s3c x4 x5 s6p s6l s6c w) : Calls Go.Proofs.Try.prog 46 #[.agg #[.int .u64 x1, .int .u64 x2, .slice s3p s3l s3c], .agg #[.int .u64 x4, .int .u64 x5, .slice s6p s6l s6c]] w R :=
  calls_of_compF noNum follows [] (f := 46) (fn := Go.Proofs.Try.f46) (body := Go.Proofs.Try.f46.body.getD .skip) (args := [.agg #[.int .u64 x1, .int .u64 x2, .slice s3p s3l s3c], .agg #[.int .u64 x4, .int .u64 x5, .slice s6p s6l s6c]]) rfl rfl (Nat.le_of_ble_eq_true rfl) ((congrFun (F46_eq _ x1 x2 s3p s3l s3c x4 x5 s6p s6l s6c) w).mpr h)
theorem F46_call {x1 : Int} {x2 : Int} {s3p : Option Addr} {s3l : Nat} {s3c : Nat} {x4 : Int} {x5 : Int} {s6p : Option Addr} {s6l : Nat} {s6c : Nat} {w : World} {g : Fn W (RTy.leaves (.tup [(.agg [(.int .u64), (.int .u64), .slice]), (.one .bool)]))} (h : F46 (fun v => Back (.tup [(.agg [(.int .u64), (.int .u64), .slice]), (.one .bool)]) g (.returned v)) x1 x2 s3p s3l s3c x4 x5 s6p s6l s6c w) : CallT Go.Proofs.Try.prog 46 [.agg #[.int .u64 x1, .int .u64 x2, .slice s3p s3l s3c], .agg #[.int .u64 x4, .int .u64 x5, .slice s6p s6l s6c]] (.tup [(.agg [(.int .u64), (.int .u64), .slice]), (.one .bool)]) g w := F46_calls h

/-! ## impl.BSFrom -/
def F47 (k : Value → W) (l_1p : Option Addr) (l_1l : Nat) (l_1c : Nat) : W :=
 New [.int .u64 0, .slice none 0 0] 25 fun n2 =>
 CallT Go.Proofs.Try.prog 85 [.slice l_1p l_1l l_1c] (.s (.one .slice)) fun s3p s3l s3c =>
 CallT Go.Proofs.Try.prog 84 [.slice s3p s3l s3c] (.s (.one .ptr)) fun p4 =>
 CallT Go.Proofs.Try.prog 51 [.pointer p4] (.s (.agg [(.int .u64), .slice])) fun x5 s6p s6l s6c =>
 Store1 ⟨n2, 0, none⟩ (.int .u64 x5) <|
 Store1 ⟨n2, 1, none⟩ (.slice s6p s6l s6c) <|
 LoadT (.int .u64) ⟨n2, 0, none⟩ fun x7 =>
 LoadT .slice ⟨n2, 1, none⟩ fun s8p s8l s8c =>
 k (.agg #[.int .u64 x7, .slice s8p s8l s8c])
theorem F47_eq (k : Value → W) (l_1p : Option Addr) (l_1l : Nat) (l_1c : Nat) : compF Go.Proofs.Try.prog Go.Proofs.Try.f47 [] (Go.Proofs.Try.f47.body.getD .skip) [.slice l_1p l_1l l_1c] k = F47 k l_1p l_1l l_1c := by kernel_rfl
theorem F47_calls {l_1p : Option Addr} {l_1l : Nat} {l_1c : Nat} {w : World} {R : Ending → World → Prop} (h : F47 (fun v w => R (.returned v) w) l_1p l_1l l_1c w) : Calls Go.Proofs.Try.prog 47 #[.slice l_1p l_1l l_1c] w R :=
  calls_of_compF noNum follows [] (f := 47) (fn := Go.Proofs.Try.f47) (body := Go.Proofs.Try.f47.body.getD .skip) (args := [.slice l_1p l_1l l_1c]) rfl rfl (Nat.le_of_ble_eq_true rfl) ((congrFun (F47_eq _ l_1p l_1l l_1c) w).mpr h)
theorem F47_call {l_1p : Option Addr} {l_1l : Nat} {l_1c : Nat} {w : World} {g : Fn W (RTy.leaves (.s (.agg [(.int .u64), .slice])))} (h : F47 (fun v => Back (.s (.agg [(.int .u64), .slice])) g (.returned v)) l_1p l_1l l_1c w) : CallT Go.Proofs.Try.prog 47 [.slice l_1p l_1l l_1c] (.s (.agg [(.int .u64), .slice])) g w := F47_calls h

/-! ## laws.FnBLDeepWords -/
def F11_J1 (k : Value → W) (h_38 : Addr) (is_39 : Bool) (u_40 : Addr) : W :=
 Drw <|
 BIf is_39 (
  LoadT .slice (h_38.add 2) fun s41p s41l s41c =>
  LoadT (.int .u64) (u_40.add 0) fun x42 =>
  LoadT .slice (u_40.add 1) fun s43p s43l s43c =>
  CallT Go.Proofs.Try.prog 47 [.slice s41p s41l s41c] (.s (.agg [(.int .u64), .slice])) fun x44 s45p s45l s45c =>
  Chk1 (u_40.add 0) (.int .u64 x42) <|
  Chk1 (u_40.add 1) (.slice s43p s43l s43c) <|
  CallT Go.Proofs.Try.prog 16 [.agg #[.int .u64 x44, .slice s45p s45l s45c], .agg #[.int .u64 x42, .slice s43p s43l s43c]] (.s (.one .bool)) fun b46 =>
  Chk1 (h_38.add 2) (.slice s41p s41l s41c) <|
  BIf b46 (
   LoadT (.int .u64) (u_40.add 0) fun x47 =>
   LoadT .slice (u_40.add 1) fun s48p s48l s48c =>
   CallT Go.Proofs.Try.prog 30 [.agg #[.int .u64 x47, .slice s48p s48l s48c]] (.s (.one (.int .u64))) fun x49 =>
   Chk1 (u_40.add 0) (.int .u64 x42) <|
   Chk1 (u_40.add 1) (.slice s43p s43l s43c) <|
   Chk1 (h_38.add 2) (.slice s41p s41l s41c) <|
   k (.bool (decide (x49 > 0)))) (
   k (.bool false))) (
  k (.bool false))
def F11 (k : Value → W) (m_1 : Int) (k_2 : Int) (one_3p : Option Addr) (one_3l : Nat) (one_3c : Nat) (two_4p : Option Addr) (two_4l : Nat) (two_4c : Nat) (data_5p : Option Addr) (data_5l : Nat) (data_5c : Nat) : W :=
 BIf (decide (((one_3l : Nat) : Int) > 2147483647)) (
  k (.bool true)) (
  BIf (decide (((two_4l : Nat) : Int) > 2147483647)) (
   k (.bool true)) (
   BIf (decide (((data_5l : Nat) : Int) > 2147483647)) (
    k (.bool true)) (
    CallT Go.Proofs.Try.prog 37 [.int .u16 m_1, .int .u8 k_2, .slice one_3p one_3l one_3c] (.s (.agg [(.int .u64), (.int .u64), .slice])) fun x6 x7 s8p s8l s8c =>
    CallT Go.Proofs.Try.prog 38 [.slice data_5p data_5l data_5c] (.s (.one .slice)) fun s9p s9l s9c =>
    New [.int .u64 0, .int .u64 0, .slice none 0 0] 46 fun n10 =>
    Store1 ⟨n10, 0, none⟩ (.int .u64 x6) <|
    Store1 ⟨n10, 1, none⟩ (.int .u64 x7) <|
    Store1 ⟨n10, 2, none⟩ (.slice s8p s8l s8c) <|
    CallT Go.Proofs.Try.prog 37 [.int .u16 m_1, .int .u8 k_2, .slice two_4p two_4l two_4c] (.s (.agg [(.int .u64), (.int .u64), .slice])) fun x11 x12 s13p s13l s13c =>
    CallT Go.Proofs.Try.prog 44 [.agg #[.int .u64 x11, .int .u64 x12, .slice s13p s13l s13c], .slice s9p s9l s9c] (.s (.agg [(.int .u64), (.int .u64), .slice])) fun x14 x15 s16p s16l s16c =>
    New [.int .u64 0, .int .u64 0, .slice none 0 0] 46 fun n17 =>
    Store1 ⟨n17, 0, none⟩ (.int .u64 x14) <|
    Store1 ⟨n17, 1, none⟩ (.int .u64 x15) <|
    Store1 ⟨n17, 2, none⟩ (.slice s16p s16l s16c) <|
    LoadT (.int .u64) ⟨n10, 0, none⟩ fun x18 =>
    LoadT (.int .u64) ⟨n10, 1, none⟩ fun x19 =>
    LoadT .slice ⟨n10, 2, none⟩ fun s20p s20l s20c =>
    LoadT (.int .u64) ⟨n17, 0, none⟩ fun x21 =>
    LoadT (.int .u64) ⟨n17, 1, none⟩ fun x22 =>
    LoadT .slice ⟨n17, 2, none⟩ fun s23p s23l s23c =>
    CallT Go.Proofs.Try.prog 46 [.agg #[.int .u64 x18, .int .u64 x19, .slice s20p s20l s20c], .agg #[.int .u64 x21, .int .u64 x22, .slice s23p s23l s23c]] (.tup [(.agg [(.int .u64), (.int .u64), .slice]), (.one .bool)]) fun x24 x25 s26p s26l s26c b27 =>
    New [.int .u64 0, .int .u64 0, .slice none 0 0] 46 fun n28 =>
    Store1 ⟨n28, 0, none⟩ (.int .u64 x24) <|
    Store1 ⟨n28, 1, none⟩ (.int .u64 x25) <|
    Store1 ⟨n28, 2, none⟩ (.slice s26p s26l s26c) <|
    Drw <|
    LoadT .slice ⟨n10, 2, none⟩ fun s29p s29l s29c =>
    LoadT .slice ⟨n17, 2, none⟩ fun s30p s30l s30c =>
    Both (
     CallT Go.Proofs.Try.prog 47 [.slice s29p s29l s29c] (.s (.agg [(.int .u64), .slice])) fun x31 s32p s32l s32c =>
     Chk1 ⟨n17, 2, none⟩ (.slice s30p s30l s30c) <|
     Both (
      CallT Go.Proofs.Try.prog 47 [.slice s30p s30l s30c] (.s (.agg [(.int .u64), .slice])) fun x33 s34p s34l s34c =>
      Chk1 ⟨n10, 2, none⟩ (.slice s29p s29l s29c) <|
      Both (
       CallT Go.Proofs.Try.prog 25 [.agg #[.int .u64 x31, .slice s32p s32l s32c], .agg #[.int .u64 x33, .slice s34p s34l s34c]] (.s (.agg [(.int .u64), .slice])) fun x35 s36p s36l s36c =>
       Chk1 ⟨n17, 2, none⟩ (.slice s30p s30l s30c) <|
       Chk1 ⟨n10, 2, none⟩ (.slice s29p s29l s29c) <|
       New [.int .u64 0, .slice none 0 0] 25 fun n37 =>
       Chk1 ⟨n17, 2, none⟩ (.slice s30p s30l s30c) <|
       Chk1 ⟨n10, 2, none⟩ (.slice s29p s29l s29c) <|
       Store1 ⟨n37, 0, none⟩ (.int .u64 x35) <|
       Store1 ⟨n37, 1, none⟩ (.slice s36p s36l s36c) <|
       F11_J1 k ⟨n28, 0, none⟩ b27 ⟨n37, 0, none⟩) (
       New [.int .u64 0, .slice none 0 0] 25 fun n50 =>
       Chk1 ⟨n17, 2, none⟩ (.slice s30p s30l s30c) <|
       Chk1 ⟨n10, 2, none⟩ (.slice s29p s29l s29c) <|
       CallT Go.Proofs.Try.prog 25 [.agg #[.int .u64 x31, .slice s32p s32l s32c], .agg #[.int .u64 x33, .slice s34p s34l s34c]] (.s (.agg [(.int .u64), .slice])) fun x51 s52p s52l s52c =>
       Chk1 ⟨n17, 2, none⟩ (.slice s30p s30l s30c) <|
       Chk1 ⟨n10, 2, none⟩ (.slice s29p s29l s29c) <|
       Store1 ⟨n50, 0, none⟩ (.int .u64 x51) <|
       Store1 ⟨n50, 1, none⟩ (.slice s52p s52l s52c) <|
       F11_J1 k ⟨n28, 0, none⟩ b27 ⟨n50, 0, none⟩)) (
      New [.int .u64 0, .slice none 0 0] 25 fun n53 =>
      Chk1 ⟨n17, 2, none⟩ (.slice s30p s30l s30c) <|
      Chk1 ⟨n10, 2, none⟩ (.slice s29p s29l s29c) <|
      CallT Go.Proofs.Try.prog 47 [.slice s30p s30l s30c] (.s (.agg [(.int .u64), .slice])) fun x54 s55p s55l s55c =>
      Chk1 ⟨n10, 2, none⟩ (.slice s29p s29l s29c) <|
      CallT Go.Proofs.Try.prog 25 [.agg #[.int .u64 x31, .slice s32p s32l s32c], .agg #[.int .u64 x54, .slice s55p s55l s55c]] (.s (.agg [(.int .u64), .slice])) fun x56 s57p s57l s57c =>
      Chk1 ⟨n17, 2, none⟩ (.slice s30p s30l s30c) <|
      Chk1 ⟨n10, 2, none⟩ (.slice s29p s29l s29c) <|
      Store1 ⟨n53, 0, none⟩ (.int .u64 x56) <|
      Store1 ⟨n53, 1, none⟩ (.slice s57p s57l s57c) <|
      F11_J1 k ⟨n28, 0, none⟩ b27 ⟨n53, 0, none⟩)) (
     New [.int .u64 0, .slice none 0 0] 25 fun n58 =>
     Chk1 ⟨n17, 2, none⟩ (.slice s30p s30l s30c) <|
     Chk1 ⟨n10, 2, none⟩ (.slice s29p s29l s29c) <|
     CallT Go.Proofs.Try.prog 47 [.slice s29p s29l s29c] (.s (.agg [(.int .u64), .slice])) fun x59 s60p s60l s60c =>
     Chk1 ⟨n17, 2, none⟩ (.slice s30p s30l s30c) <|
     CallT Go.Proofs.Try.prog 47 [.slice s30p s30l s30c] (.s (.agg [(.int .u64), .slice])) fun x61 s62p s62l s62c =>
     Chk1 ⟨n10, 2, none⟩ (.slice s29p s29l s29c) <|
     CallT Go.Proofs.Try.prog 25 [.agg #[.int .u64 x59, .slice s60p s60l s60c], .agg #[.int .u64 x61, .slice s62p s62l s62c]] (.s (.agg [(.int .u64), .slice])) fun x63 s64p s64l s64c =>
     Chk1 ⟨n17, 2, none⟩ (.slice s30p s30l s30c) <|
     Chk1 ⟨n10, 2, none⟩ (.slice s29p s29l s29c) <|
     Store1 ⟨n58, 0, none⟩ (.int .u64 x63) <|
     Store1 ⟨n58, 1, none⟩ (.slice s64p s64l s64c) <|
     F11_J1 k ⟨n28, 0, none⟩ b27 ⟨n58, 0, none⟩))))
theorem F11_eq (k : Value → W) (m_1 : Int) (k_2 : Int) (one_3p : Option Addr) (one_3l : Nat) (one_3c : Nat) (two_4p : Option Addr) (two_4l : Nat) (two_4c : Nat) (data_5p : Option Addr) (data_5l : Nat) (data_5c : Nat) : compF Go.Proofs.Try.prog Go.Proofs.Try.f11 [] (Go.Proofs.Try.f11.body.getD .skip) [.int .u16 m_1, .int .u8 k_2, .slice one_3p one_3l one_3c, .slice two_4p two_4l two_4c, .slice data_5p data_5l data_5c] k = F11 k m_1 k_2 one_3p one_3l one_3c two_4p two_4l two_4c data_5p data_5l data_5c := by kernel_rfl
theorem F11_calls {m_1 : Int} {k_2 : Int} {one_3p : Option Addr} {one_3l : Nat} {one_3c : Nat} {two_4p : Option Addr} {two_4l : Nat} {two_4c : Nat} {data_5p : Option Addr} {data_5l : Nat} {data_5c : Nat} {w : World} {R : Ending → World → Prop} (h : F11 (fun v w => R (.returned v) w) m_1 k_2 one_3p one_3l one_3c two_4p two_4l two_4c data_5p data_5l data_5c w) : Calls Go.Proofs.Try.prog 11 #[.int .u16 m_1, .int .u8 k_2, .slice one_3p one_3l one_3c, .slice two_4p two_4l two_4c, .slice data_5p data_5l data_5c] w R :=
  calls_of_compF noNum follows [] (f := 11) (fn := Go.Proofs.Try.f11) (body := Go.Proofs.Try.f11.body.getD .skip) (args := [.int .u16 m_1, .int .u8 k_2, .slice one_3p one_3l one_3c, .slice two_4p two_4l two_4c, .slice data_5p data_5l data_5c]) rfl rfl (Nat.le_of_ble_eq_true rfl) ((congrFun (F11_eq _ m_1 k_2 one_3p one_3l one_3c two_4p two_4l two_4c data_5p data_5l data_5c) w).mpr h)
theorem F11_call {m_1 : Int} {k_2 : Int} {one_3p : Option Addr} {one_3l : Nat} {one_3c : Nat} {two_4p : Option Addr} {two_4l : Nat} {two_4c : Nat} {data_5p : Option Addr} {data_5l : Nat} {data_5c : Nat} {w : World} {g : Fn W (RTy.leaves (.s (.one .bool)))} (h : F11 (fun v => Back (.s (.one .bool)) g (.returned v)) m_1 k_2 one_3p one_3l one_3c two_4p two_4l two_4c data_5p data_5l data_5c w) : CallT Go.Proofs.Try.prog 11 [.int .u16 m_1, .int .u8 k_2, .slice one_3p one_3l one_3c, .slice two_4p two_4l two_4c, .slice data_5p data_5l data_5c] (.s (.one .bool)) g w := F11_calls h

end Go.Proofs.Ytopdlfecfgimpaa.E
