/-
  Printed by this session's own program eng.py out of Lean's print of the loaded functions: what each function's body asks, in the engine's words; each is checked against the program by the kernel.
-/
import Derived.Test.YtaacaokocamlcaaDoorEng
import Derived.Test.YtaacaokocamlcaaDoorFnsA
namespace Go.Proofs.YtaacaokocamlcaaDoor.E
open Go
set_option linter.unusedVariables false
set_option maxRecDepth 100000
/-! ## laws.deep07Many -/
def F8_L2 (k : Value → W) (again42 : Int → Int → Int → Int → Option Addr → Nat → Nat → Option Addr → Nat → Nat → Int → W) (first_35 : Int) (by_36 : Int) (mask_37 : Int) (n_38 : Int) (l_39p : Option Addr) (l_39l : Nat) (l_39c : Nat) (out_40p : Option Addr) (out_40l : Nat) (out_40c : Nat) (i_41 : Int) : W :=
 BIf (decide (i_41 < n_38)) (
  NN l_39p fun a43 =>
  Req (0 ≤ i_41 ∧ i_41 < ((l_39l : Nat) : Int)) <|
  LoadT (.int .u64) (a43.add (i_41.toNat * 2)) fun x44 =>
  RawT Go.Proofs.Tryd.prog (Instr.buildSlice 31 1 [(0, .int .u64 x44)].toArray) (.s (.one .slice)) fun s45p s45l s45c =>
  RawT Go.Proofs.Tryd.prog (Instr.buildSlice 25 1 [(0, .agg #[.int .i64 3, .slice none 0 0, .slice s45p s45l s45c])].toArray) (.s (.one .slice)) fun s46p s46l s46c =>
  NextT Go.Proofs.Tryd.prog (builtin .append #[25, 25] 25 [false, false].toArray [.slice out_40p out_40l out_40c, .slice s46p s46l s46c].toArray) (.s (.one .slice)) fun s47p s47l s47c =>
  again42 first_35 by_36 mask_37 n_38 l_39p l_39l l_39c s47p s47l s47c (addI .i64 i_41 1)) (
  RawT Go.Proofs.Tryd.prog (Instr.buildSlice 31 1 [(0, .int .u64 (andI .u64 (addI .u64 first_35 (mulI .u64 (IntKind.wrap .u64 n_38) (orI .u64 by_36 1))) mask_37))].toArray) (.s (.one .slice)) fun s48p s48l s48c =>
  RawT Go.Proofs.Tryd.prog (Instr.buildSlice 25 1 [(0, .agg #[.int .i64 3, .slice none 0 0, .slice s48p s48l s48c])].toArray) (.s (.one .slice)) fun s49p s49l s49c =>
  NextT Go.Proofs.Tryd.prog (builtin .append #[25, 25] 25 [false, false].toArray [.slice out_40p out_40l out_40c, .slice s49p s49l s49c].toArray) (.s (.one .slice)) fun s50p s50l s50c =>
  k (.tuple #[.slice s50p s50l s50c, .slice l_39p l_39l l_39c]))
theorem F8_L2_rule {k : Value → W} (I : Int → Int → Int → Int → Option Addr → Nat → Nat → Option Addr → Nat → Nat → Int → W) (μ : Int → Int → Int → Int → Option Addr → Nat → Nat → Option Addr → Nat → Nat → Int → World → Nat)
  (hr : ∀ (first_35 : Int) (by_36 : Int) (mask_37 : Int) (n_38 : Int) (l_39p : Option Addr) (l_39l : Nat) (l_39c : Nat) (out_40p : Option Addr) (out_40l : Nat) (out_40c : Nat) (i_41 : Int) (w : World), I first_35 by_36 mask_37 n_38 l_39p l_39l l_39c out_40p out_40l out_40c i_41 w → F8_L2 k (fun first_35' by_36' mask_37' n_38' l_39p' l_39l' l_39c' out_40p' out_40l' out_40c' i_41' w' => I first_35' by_36' mask_37' n_38' l_39p' l_39l' l_39c' out_40p' out_40l' out_40c' i_41' w' ∧ μ first_35' by_36' mask_37' n_38' l_39p' l_39l' l_39c' out_40p' out_40l' out_40c' i_41' w' < μ first_35 by_36 mask_37 n_38 l_39p l_39l l_39c out_40p out_40l out_40c i_41 w) first_35 by_36 mask_37 n_38 l_39p l_39l l_39c out_40p out_40l out_40c i_41 w)
  {w : World} {first_35 : Int} {by_36 : Int} {mask_37 : Int} {n_38 : Int} {l_39p : Option Addr} {l_39l : Nat} {l_39c : Nat} {out_40p : Option Addr} {out_40l : Nat} {out_40c : Nat} {i_41 : Int} (h : I first_35 by_36 mask_37 n_38 l_39p l_39l l_39c out_40p out_40l out_40c i_41 w) : Loop [(.int .u64), (.int .u64), (.int .u64), (.int .i64), .slice, .slice, (.int .i64)] (F8_L2 k) first_35 by_36 mask_37 n_38 l_39p l_39l l_39c out_40p out_40l out_40c i_41 w :=
  Loop_intro (ts := [(.int .u64), (.int .u64), (.int .u64), (.int .i64), .slice, .slice, (.int .i64)]) (s := (first_35, by_36, mask_37, n_38, (l_39p, l_39l, l_39c), (out_40p, out_40l, out_40c), i_41, ())) (fun s w => I s.1 s.2.1 s.2.2.1 s.2.2.2.1 s.2.2.2.2.1.1 s.2.2.2.2.1.2.1 s.2.2.2.2.1.2.2 s.2.2.2.2.2.1.1 s.2.2.2.2.2.1.2.1 s.2.2.2.2.2.1.2.2 s.2.2.2.2.2.2.1 w) (fun s w => μ s.1 s.2.1 s.2.2.1 s.2.2.2.1 s.2.2.2.2.1.1 s.2.2.2.2.1.2.1 s.2.2.2.2.1.2.2 s.2.2.2.2.2.1.1 s.2.2.2.2.2.1.2.1 s.2.2.2.2.2.1.2.2 s.2.2.2.2.2.2.1 w) h (fun s w h => hr s.1 s.2.1 s.2.2.1 s.2.2.2.1 s.2.2.2.2.1.1 s.2.2.2.2.1.2.1 s.2.2.2.2.1.2.2 s.2.2.2.2.2.1.1 s.2.2.2.2.2.1.2.1 s.2.2.2.2.2.1.2.2 s.2.2.2.2.2.2.1 w h)
def F8_J2 (k : Value → W) (first_29 : Int) (by_30 : Int) (mask_31 : Int) (n_32 : Int) (l_33p : Option Addr) (l_33l : Nat) (l_33c : Nat) (out_34p : Option Addr) (out_34l : Nat) (out_34c : Nat) : W :=
 Loop [(.int .u64), (.int .u64), (.int .u64), (.int .i64), .slice, .slice, (.int .i64)] (F8_L2 k) first_29 by_30 mask_31 n_32 l_33p l_33l l_33c out_34p out_34l out_34c 0
def F8_L1 (k : Value → W) (again21 : Int → Int → Int → Int → Int → Option Addr → Nat → Nat → Int → W) (first_14 : Int) (by_15 : Int) (cut_16 : Int) (mask_17 : Int) (n_18 : Int) (l_19p : Option Addr) (l_19l : Nat) (l_19c : Nat) (i_20 : Int) : W :=
 BIf (decide (i_20 < n_18)) (
  RawT Go.Proofs.Tryd.prog (Instr.buildSlice 26 1 [(0, .agg #[.int .u64 (andI .u64 (addI .u64 first_14 (mulI .u64 (IntKind.wrap .u64 i_20) (orI .u64 by_15 1))) mask_17), .int .i64 (addI .i64 i_20 1)])].toArray) (.s (.one .slice)) fun s22p s22l s22c =>
  NextT Go.Proofs.Tryd.prog (builtin .append #[26, 26] 26 [false, false].toArray [.slice l_19p l_19l l_19c, .slice s22p s22l s22c].toArray) (.s (.one .slice)) fun s23p s23l s23c =>
  again21 first_14 by_15 cut_16 mask_17 n_18 s23p s23l s23c (addI .i64 i_20 1)) (
  Req (addI .i64 n_18 1 ≠ (0 : Int)) <|
  Bind (remI (IntKind.wrap .i64 cut_16) (addI .i64 n_18 1) : Int) fun k_24 =>
  Drw <|
  Req (0 ≤ k_24 ∧ k_24 ≤ ((l_19c : Nat) : Int)) <|
  Req (0 ≤ k_24 ∧ k_24 ≤ ((l_19l : Nat) : Int)) <|
  Both (
   RawT Go.Proofs.Tryd.prog (Instr.buildSlice 31 1 [(0, .int .u64 0)].toArray) (.s (.one .slice)) fun s25p s25l s25c =>
   Both (
    RawT Go.Proofs.Tryd.prog (Instr.buildSlice 31 1 [(0, .int .u64 0)].toArray) (.s (.one .slice)) fun s26p s26l s26c =>
    RawT Go.Proofs.Tryd.prog (Instr.buildSlice 31 1 [(0, .int .u64 0)].toArray) (.s (.one .slice)) fun s27p s27l s27c =>
    RawT Go.Proofs.Tryd.prog (Instr.buildSlice 25 3 [(0, .agg #[.int .i64 1, .slice (sliceA l_19p 0 l_19c 2) (k_24.toNat - 0) (l_19c - 0), .slice s25p s25l s25c]), (1, .agg #[.int .i64 1, .slice (sliceA l_19p k_24.toNat l_19c 2) (l_19l - k_24.toNat) (l_19c - k_24.toNat), .slice s26p s26l s26c]), (2, .agg #[.int .i64 5, .slice none 0 0, .slice s27p s27l s27c])].toArray) (.s (.one .slice)) fun s28p s28l s28c =>
    F8_J2 k first_14 by_15 mask_17 n_18 l_19p l_19l l_19c s28p s28l s28c) (
    RawT Go.Proofs.Tryd.prog (Instr.buildSlice 31 1 [(0, .int .u64 0)].toArray) (.s (.one .slice)) fun s51p s51l s51c =>
    RawT Go.Proofs.Tryd.prog (Instr.buildSlice 31 1 [(0, .int .u64 0)].toArray) (.s (.one .slice)) fun s52p s52l s52c =>
    RawT Go.Proofs.Tryd.prog (Instr.buildSlice 25 3 [(0, .agg #[.int .i64 1, .slice (sliceA l_19p 0 l_19c 2) (k_24.toNat - 0) (l_19c - 0), .slice s25p s25l s25c]), (1, .agg #[.int .i64 1, .slice (sliceA l_19p k_24.toNat l_19c 2) (l_19l - k_24.toNat) (l_19c - k_24.toNat), .slice s52p s52l s52c]), (2, .agg #[.int .i64 5, .slice none 0 0, .slice s51p s51l s51c])].toArray) (.s (.one .slice)) fun s53p s53l s53c =>
    F8_J2 k first_14 by_15 mask_17 n_18 l_19p l_19l l_19c s53p s53l s53c)) (
   Both (
    RawT Go.Proofs.Tryd.prog (Instr.buildSlice 31 1 [(0, .int .u64 0)].toArray) (.s (.one .slice)) fun s54p s54l s54c =>
    Both (
     RawT Go.Proofs.Tryd.prog (Instr.buildSlice 31 1 [(0, .int .u64 0)].toArray) (.s (.one .slice)) fun s55p s55l s55c =>
     RawT Go.Proofs.Tryd.prog (Instr.buildSlice 31 1 [(0, .int .u64 0)].toArray) (.s (.one .slice)) fun s56p s56l s56c =>
     RawT Go.Proofs.Tryd.prog (Instr.buildSlice 25 3 [(0, .agg #[.int .i64 1, .slice (sliceA l_19p 0 l_19c 2) (k_24.toNat - 0) (l_19c - 0), .slice s55p s55l s55c]), (1, .agg #[.int .i64 1, .slice (sliceA l_19p k_24.toNat l_19c 2) (l_19l - k_24.toNat) (l_19c - k_24.toNat), .slice s54p s54l s54c]), (2, .agg #[.int .i64 5, .slice none 0 0, .slice s56p s56l s56c])].toArray) (.s (.one .slice)) fun s57p s57l s57c =>
     F8_J2 k first_14 by_15 mask_17 n_18 l_19p l_19l l_19c s57p s57l s57c) (
     RawT Go.Proofs.Tryd.prog (Instr.buildSlice 31 1 [(0, .int .u64 0)].toArray) (.s (.one .slice)) fun s58p s58l s58c =>
     RawT Go.Proofs.Tryd.prog (Instr.buildSlice 31 1 [(0, .int .u64 0)].toArray) (.s (.one .slice)) fun s59p s59l s59c =>
     RawT Go.Proofs.Tryd.prog (Instr.buildSlice 25 3 [(0, .agg #[.int .i64 1, .slice (sliceA l_19p 0 l_19c 2) (k_24.toNat - 0) (l_19c - 0), .slice s59p s59l s59c]), (1, .agg #[.int .i64 1, .slice (sliceA l_19p k_24.toNat l_19c 2) (l_19l - k_24.toNat) (l_19c - k_24.toNat), .slice s54p s54l s54c]), (2, .agg #[.int .i64 5, .slice none 0 0, .slice s58p s58l s58c])].toArray) (.s (.one .slice)) fun s60p s60l s60c =>
     F8_J2 k first_14 by_15 mask_17 n_18 l_19p l_19l l_19c s60p s60l s60c)) (
    RawT Go.Proofs.Tryd.prog (Instr.buildSlice 31 1 [(0, .int .u64 0)].toArray) (.s (.one .slice)) fun s61p s61l s61c =>
    Both (
     RawT Go.Proofs.Tryd.prog (Instr.buildSlice 31 1 [(0, .int .u64 0)].toArray) (.s (.one .slice)) fun s62p s62l s62c =>
     RawT Go.Proofs.Tryd.prog (Instr.buildSlice 31 1 [(0, .int .u64 0)].toArray) (.s (.one .slice)) fun s63p s63l s63c =>
     RawT Go.Proofs.Tryd.prog (Instr.buildSlice 25 3 [(0, .agg #[.int .i64 1, .slice (sliceA l_19p 0 l_19c 2) (k_24.toNat - 0) (l_19c - 0), .slice s62p s62l s62c]), (1, .agg #[.int .i64 1, .slice (sliceA l_19p k_24.toNat l_19c 2) (l_19l - k_24.toNat) (l_19c - k_24.toNat), .slice s63p s63l s63c]), (2, .agg #[.int .i64 5, .slice none 0 0, .slice s61p s61l s61c])].toArray) (.s (.one .slice)) fun s64p s64l s64c =>
     F8_J2 k first_14 by_15 mask_17 n_18 l_19p l_19l l_19c s64p s64l s64c) (
     RawT Go.Proofs.Tryd.prog (Instr.buildSlice 31 1 [(0, .int .u64 0)].toArray) (.s (.one .slice)) fun s65p s65l s65c =>
     RawT Go.Proofs.Tryd.prog (Instr.buildSlice 31 1 [(0, .int .u64 0)].toArray) (.s (.one .slice)) fun s66p s66l s66c =>
     RawT Go.Proofs.Tryd.prog (Instr.buildSlice 25 3 [(0, .agg #[.int .i64 1, .slice (sliceA l_19p 0 l_19c 2) (k_24.toNat - 0) (l_19c - 0), .slice s66p s66l s66c]), (1, .agg #[.int .i64 1, .slice (sliceA l_19p k_24.toNat l_19c 2) (l_19l - k_24.toNat) (l_19c - k_24.toNat), .slice s65p s65l s65c]), (2, .agg #[.int .i64 5, .slice none 0 0, .slice s61p s61l s61c])].toArray) (.s (.one .slice)) fun s67p s67l s67c =>
     F8_J2 k first_14 by_15 mask_17 n_18 l_19p l_19l l_19c s67p s67l s67c))))
theorem F8_L1_rule {k : Value → W} (I : Int → Int → Int → Int → Int → Option Addr → Nat → Nat → Int → W) (μ : Int → Int → Int → Int → Int → Option Addr → Nat → Nat → Int → World → Nat)
  (hr : ∀ (first_14 : Int) (by_15 : Int) (cut_16 : Int) (mask_17 : Int) (n_18 : Int) (l_19p : Option Addr) (l_19l : Nat) (l_19c : Nat) (i_20 : Int) (w : World), I first_14 by_15 cut_16 mask_17 n_18 l_19p l_19l l_19c i_20 w → F8_L1 k (fun first_14' by_15' cut_16' mask_17' n_18' l_19p' l_19l' l_19c' i_20' w' => I first_14' by_15' cut_16' mask_17' n_18' l_19p' l_19l' l_19c' i_20' w' ∧ μ first_14' by_15' cut_16' mask_17' n_18' l_19p' l_19l' l_19c' i_20' w' < μ first_14 by_15 cut_16 mask_17 n_18 l_19p l_19l l_19c i_20 w) first_14 by_15 cut_16 mask_17 n_18 l_19p l_19l l_19c i_20 w)
  {w : World} {first_14 : Int} {by_15 : Int} {cut_16 : Int} {mask_17 : Int} {n_18 : Int} {l_19p : Option Addr} {l_19l : Nat} {l_19c : Nat} {i_20 : Int} (h : I first_14 by_15 cut_16 mask_17 n_18 l_19p l_19l l_19c i_20 w) : Loop [(.int .u64), (.int .u64), (.int .u8), (.int .u64), (.int .i64), .slice, (.int .i64)] (F8_L1 k) first_14 by_15 cut_16 mask_17 n_18 l_19p l_19l l_19c i_20 w :=
  Loop_intro (ts := [(.int .u64), (.int .u64), (.int .u8), (.int .u64), (.int .i64), .slice, (.int .i64)]) (s := (first_14, by_15, cut_16, mask_17, n_18, (l_19p, l_19l, l_19c), i_20, ())) (fun s w => I s.1 s.2.1 s.2.2.1 s.2.2.2.1 s.2.2.2.2.1 s.2.2.2.2.2.1.1 s.2.2.2.2.2.1.2.1 s.2.2.2.2.2.1.2.2 s.2.2.2.2.2.2.1 w) (fun s w => μ s.1 s.2.1 s.2.2.1 s.2.2.2.1 s.2.2.2.2.1 s.2.2.2.2.2.1.1 s.2.2.2.2.2.1.2.1 s.2.2.2.2.2.1.2.2 s.2.2.2.2.2.2.1 w) h (fun s w h => hr s.1 s.2.1 s.2.2.1 s.2.2.2.1 s.2.2.2.2.1 s.2.2.2.2.2.1.1 s.2.2.2.2.2.1.2.1 s.2.2.2.2.2.1.2.2 s.2.2.2.2.2.2.1 w h)
def F8_J1 (k : Value → W) (first_9 : Int) (by_10 : Int) (cut_11 : Int) (mask_12 : Int) (n_13 : Int) : W :=
 Loop [(.int .u64), (.int .u64), (.int .u8), (.int .u64), (.int .i64), .slice, (.int .i64)] (F8_L1 k) first_9 by_10 cut_11 mask_12 n_13 none 0 0 0
def F8 (k : Value → W) (bits_1 : Int) (first_2 : Int) (by_3 : Int) (many_4 : Int) (cut_5 : Int) : W :=
 CallT Go.Proofs.Tryd.prog 13 [.int .i64 bits_1] (.s (.one (.int .u64))) fun x6 =>
 Req (400 ≠ (0 : Int)) <|
 Bind (addI .i64 1 (remI (IntKind.wrap .i64 many_4) 400) : Int) fun n_7 =>
 BIf (bits_1 == 8) (
  NextT Go.Proofs.Tryd.prog (builtin .min #[3, 3] 3 [false, true].toArray [.int .i64 n_7, .int .i64 250].toArray) (.s (.one (.int .i64))) fun x8 =>
  F8_J1 k first_2 by_3 cut_5 x6 x8) (
  F8_J1 k first_2 by_3 cut_5 x6 n_7)
theorem F8_eq (k : Value → W) (bits_1 : Int) (first_2 : Int) (by_3 : Int) (many_4 : Int) (cut_5 : Int) : compF Go.Proofs.Tryd.prog Go.Proofs.Tryd.f8 [(7, [(1, (.int .u64)), (2, (.int .u64)), (4, (.int .u8)), (12, (.int .u64)), (13, (.int .i64)), (14, .slice), (15, (.int .i64))]), (13, [(1, (.int .u64)), (2, (.int .u64)), (12, (.int .u64)), (13, (.int .i64)), (14, .slice), (17, .slice), (18, (.int .i64))])] (Go.Proofs.Tryd.f8.body.getD .skip) [.int .i64 bits_1, .int .u64 first_2, .int .u64 by_3, .int .u16 many_4, .int .u8 cut_5] k = F8 k bits_1 first_2 by_3 many_4 cut_5 := by kernel_rfl
theorem F8_calls {bits_1 : Int} {first_2 : Int} {by_3 : Int} {many_4 : Int} {cut_5 : Int} {w : World} {R : Ending → World → Prop} (h : F8 (fun v w => R (.returned v) w) bits_1 first_2 by_3 many_4 cut_5 w) : Calls Go.Proofs.Tryd.prog 8 #[.int .i64 bits_1, .int .u64 first_2, .int .u64 by_3, .int .u16 many_4, .int .u8 cut_5] w R :=
  calls_of_compF noNum follows [(7, [(1, (.int .u64)), (2, (.int .u64)), (4, (.int .u8)), (12, (.int .u64)), (13, (.int .i64)), (14, .slice), (15, (.int .i64))]), (13, [(1, (.int .u64)), (2, (.int .u64)), (12, (.int .u64)), (13, (.int .i64)), (14, .slice), (17, .slice), (18, (.int .i64))])] (f := 8) (fn := Go.Proofs.Tryd.f8) (body := Go.Proofs.Tryd.f8.body.getD .skip) (args := [.int .i64 bits_1, .int .u64 first_2, .int .u64 by_3, .int .u16 many_4, .int .u8 cut_5]) rfl rfl (Nat.le_of_ble_eq_true rfl) ((congrFun (F8_eq _ bits_1 first_2 by_3 many_4 cut_5) w).mpr h)
theorem F8_call {bits_1 : Int} {first_2 : Int} {by_3 : Int} {many_4 : Int} {cut_5 : Int} {w : World} {g : Fn W (RTy.leaves (.tup [(.one .slice), (.one .slice)]))} (h : F8 (fun v => Back (.tup [(.one .slice), (.one .slice)]) g (.returned v)) bits_1 first_2 by_3 many_4 cut_5 w) : CallT Go.Proofs.Tryd.prog 8 [.int .i64 bits_1, .int .u64 first_2, .int .u64 by_3, .int .u16 many_4, .int .u8 cut_5] (.tup [(.one .slice), (.one .slice)]) g w := F8_calls h

/-! ## laws.deep07Found -/
def F10_L1 (k : Value → W) (again11 : Option Addr → Nat → Nat → Option Addr → Nat → Nat → Int → Int → W) (a_7p : Option Addr) (a_7l : Nat) (a_7c : Nat) (l_8p : Option Addr) (l_8l : Nat) (l_8c : Nat) (n_9 : Int) (i_10 : Int) : W :=
 BIf (decide (i_10 < n_9)) (
  Drw <|
  NN a_7p fun a12 =>
  Req (0 ≤ addI .i64 3 i_10 ∧ addI .i64 3 i_10 < ((a_7l : Nat) : Int)) <|
  LoadT .slice (a12.add ((addI .i64 3 i_10).toNat * 3)) fun s13p s13l s13c =>
  Req (0 ≤ addI .i64 i_10 1 ∧ addI .i64 i_10 1 ≤ ((l_8c : Nat) : Int)) <|
  Req (0 ≤ i_10 ∧ i_10 ≤ (((addI .i64 i_10 1).toNat : Nat) : Int)) <|
  CallT Go.Proofs.Tryd.prog 11 [.slice s13p s13l s13c, .slice (sliceA l_8p i_10.toNat l_8c 2) (((addI .i64 i_10 1).toNat) - i_10.toNat) (l_8c - i_10.toNat)] (.s (.one .bool)) fun b14 =>
  BIf (!b14) (
   k (.bool false)) (
   again11 a_7p a_7l a_7c l_8p l_8l l_8c n_9 (addI .i64 i_10 1))) (
  k (.bool true))
theorem F10_L1_rule {k : Value → W} (I : Option Addr → Nat → Nat → Option Addr → Nat → Nat → Int → Int → W) (μ : Option Addr → Nat → Nat → Option Addr → Nat → Nat → Int → Int → World → Nat)
  (hr : ∀ (a_7p : Option Addr) (a_7l : Nat) (a_7c : Nat) (l_8p : Option Addr) (l_8l : Nat) (l_8c : Nat) (n_9 : Int) (i_10 : Int) (w : World), I a_7p a_7l a_7c l_8p l_8l l_8c n_9 i_10 w → F10_L1 k (fun a_7p' a_7l' a_7c' l_8p' l_8l' l_8c' n_9' i_10' w' => I a_7p' a_7l' a_7c' l_8p' l_8l' l_8c' n_9' i_10' w' ∧ μ a_7p' a_7l' a_7c' l_8p' l_8l' l_8c' n_9' i_10' w' < μ a_7p a_7l a_7c l_8p l_8l l_8c n_9 i_10 w) a_7p a_7l a_7c l_8p l_8l l_8c n_9 i_10 w)
  {w : World} {a_7p : Option Addr} {a_7l : Nat} {a_7c : Nat} {l_8p : Option Addr} {l_8l : Nat} {l_8c : Nat} {n_9 : Int} {i_10 : Int} (h : I a_7p a_7l a_7c l_8p l_8l l_8c n_9 i_10 w) : Loop [.slice, .slice, (.int .i64), (.int .i64)] (F10_L1 k) a_7p a_7l a_7c l_8p l_8l l_8c n_9 i_10 w :=
  Loop_intro (ts := [.slice, .slice, (.int .i64), (.int .i64)]) (s := ((a_7p, a_7l, a_7c), (l_8p, l_8l, l_8c), n_9, i_10, ())) (fun s w => I s.1.1 s.1.2.1 s.1.2.2 s.2.1.1 s.2.1.2.1 s.2.1.2.2 s.2.2.1 s.2.2.2.1 w) (fun s w => μ s.1.1 s.1.2.1 s.1.2.2 s.2.1.1 s.2.1.2.1 s.2.1.2.2 s.2.2.1 s.2.2.2.1 w) h (fun s w h => hr s.1.1 s.1.2.1 s.1.2.2 s.2.1.1 s.2.1.2.1 s.2.1.2.2 s.2.2.1 s.2.2.2.1 w h)
def F10 (k : Value → W) (a_1p : Option Addr) (a_1l : Nat) (a_1c : Nat) (l_2p : Option Addr) (l_2l : Nat) (l_2c : Nat) : W :=
 BIf (decide (((a_1l : Nat) : Int) < (addI .i64 ((l_2l : Nat) : Int) 4))) (
  k (.bool false)) (
  NN a_1p fun a3 =>
  Req (0 ≤ (2 : Int) ∧ (2 : Int) < ((a_1l : Nat) : Int)) <|
  LoadT (.int .u64) ((a3.add ((2 : Int).toNat * 3)).add 1) fun x4 =>
  BIf (x4 != (IntKind.wrap .u64 ((l_2l : Nat) : Int))) (
   k (.bool false)) (
   NN a_1p fun a5 =>
   Req (0 ≤ addI .i64 ((l_2l : Nat) : Int) 3 ∧ addI .i64 ((l_2l : Nat) : Int) 3 < ((a_1l : Nat) : Int)) <|
   LoadT .slice (a5.add ((addI .i64 ((l_2l : Nat) : Int) 3).toNat * 3)) fun s6p s6l s6c =>
   BIf (((s6l : Nat) : Int) != 0) (
    k (.bool false)) (
    Loop [.slice, .slice, (.int .i64), (.int .i64)] (F10_L1 k) a_1p a_1l a_1c l_2p l_2l l_2c ((l_2l : Nat) : Int) 0)))
theorem F10_eq (k : Value → W) (a_1p : Option Addr) (a_1l : Nat) (a_1c : Nat) (l_2p : Option Addr) (l_2l : Nat) (l_2c : Nat) : compF Go.Proofs.Tryd.prog Go.Proofs.Tryd.f10 [(5, [(0, .slice), (1, .slice), (5, (.int .i64)), (6, (.int .i64))])] (Go.Proofs.Tryd.f10.body.getD .skip) [.slice a_1p a_1l a_1c, .slice l_2p l_2l l_2c] k = F10 k a_1p a_1l a_1c l_2p l_2l l_2c := by kernel_rfl
theorem F10_calls {a_1p : Option Addr} {a_1l : Nat} {a_1c : Nat} {l_2p : Option Addr} {l_2l : Nat} {l_2c : Nat} {w : World} {R : Ending → World → Prop} (h : F10 (fun v w => R (.returned v) w) a_1p a_1l a_1c l_2p l_2l l_2c w) : Calls Go.Proofs.Tryd.prog 10 #[.slice a_1p a_1l a_1c, .slice l_2p l_2l l_2c] w R :=
  calls_of_compF noNum follows [(5, [(0, .slice), (1, .slice), (5, (.int .i64)), (6, (.int .i64))])] (f := 10) (fn := Go.Proofs.Tryd.f10) (body := Go.Proofs.Tryd.f10.body.getD .skip) (args := [.slice a_1p a_1l a_1c, .slice l_2p l_2l l_2c]) rfl rfl (Nat.le_of_ble_eq_true rfl) ((congrFun (F10_eq _ a_1p a_1l a_1c l_2p l_2l l_2c) w).mpr h)
theorem F10_call {a_1p : Option Addr} {a_1l : Nat} {a_1c : Nat} {l_2p : Option Addr} {l_2l : Nat} {l_2c : Nat} {w : World} {g : Fn W (RTy.leaves (.s (.one .bool)))} (h : F10 (fun v => Back (.s (.one .bool)) g (.returned v)) a_1p a_1l a_1c l_2p l_2l l_2c w) : CallT Go.Proofs.Tryd.prog 10 [.slice a_1p a_1l a_1c, .slice l_2p l_2l l_2c] (.s (.one .bool)) g w := F10_calls h

/-! ## spec.TRSameItems -/
def F11_L1 (k : Value → W) (again6 : Option Addr → Nat → Nat → Option Addr → Nat → Nat → Int → W) (a_3p : Option Addr) (a_3l : Nat) (a_3c : Nat) (b_4p : Option Addr) (b_4l : Nat) (b_4c : Nat) (i_5 : Int) : W :=
 BIf (decide (i_5 < ((a_3l : Nat) : Int))) (
  Drw <|
  NN a_3p fun a7 =>
  Req (0 ≤ i_5 ∧ i_5 < ((a_3l : Nat) : Int)) <|
  LoadT (.int .u64) ((a7.add (i_5.toNat * 2)).add 0) fun x8 =>
  LoadT (.int .i64) ((a7.add (i_5.toNat * 2)).add 1) fun x9 =>
  NN b_4p fun a10 =>
  Req (0 ≤ i_5 ∧ i_5 < ((b_4l : Nat) : Int)) <|
  LoadT (.int .u64) ((a10.add (i_5.toNat * 2)).add 0) fun x11 =>
  LoadT (.int .i64) ((a10.add (i_5.toNat * 2)).add 1) fun x12 =>
  RawS Go.Proofs.Tryd.prog (binS .neq 35 (.tmp 20) (.tmp 24) (.agg #[.int .u64 x8, .int .i64 x9]) (.agg #[.int .u64 x11, .int .i64 x12])) (.s (.one .bool)) fun b13 =>
  BIf b13 (
   k (.bool false)) (
   again6 a_3p a_3l a_3c b_4p b_4l b_4c (addI .i64 i_5 1))) (
  k (.bool true))
theorem F11_L1_rule {k : Value → W} (I : Option Addr → Nat → Nat → Option Addr → Nat → Nat → Int → W) (μ : Option Addr → Nat → Nat → Option Addr → Nat → Nat → Int → World → Nat)
  (hr : ∀ (a_3p : Option Addr) (a_3l : Nat) (a_3c : Nat) (b_4p : Option Addr) (b_4l : Nat) (b_4c : Nat) (i_5 : Int) (w : World), I a_3p a_3l a_3c b_4p b_4l b_4c i_5 w → F11_L1 k (fun a_3p' a_3l' a_3c' b_4p' b_4l' b_4c' i_5' w' => I a_3p' a_3l' a_3c' b_4p' b_4l' b_4c' i_5' w' ∧ μ a_3p' a_3l' a_3c' b_4p' b_4l' b_4c' i_5' w' < μ a_3p a_3l a_3c b_4p b_4l b_4c i_5 w) a_3p a_3l a_3c b_4p b_4l b_4c i_5 w)
  {w : World} {a_3p : Option Addr} {a_3l : Nat} {a_3c : Nat} {b_4p : Option Addr} {b_4l : Nat} {b_4c : Nat} {i_5 : Int} (h : I a_3p a_3l a_3c b_4p b_4l b_4c i_5 w) : Loop [.slice, .slice, (.int .i64)] (F11_L1 k) a_3p a_3l a_3c b_4p b_4l b_4c i_5 w :=
  Loop_intro (ts := [.slice, .slice, (.int .i64)]) (s := ((a_3p, a_3l, a_3c), (b_4p, b_4l, b_4c), i_5, ())) (fun s w => I s.1.1 s.1.2.1 s.1.2.2 s.2.1.1 s.2.1.2.1 s.2.1.2.2 s.2.2.1 w) (fun s w => μ s.1.1 s.1.2.1 s.1.2.2 s.2.1.1 s.2.1.2.1 s.2.1.2.2 s.2.2.1 w) h (fun s w h => hr s.1.1 s.1.2.1 s.1.2.2 s.2.1.1 s.2.1.2.1 s.2.1.2.2 s.2.2.1 w h)
def F11 (k : Value → W) (a_1p : Option Addr) (a_1l : Nat) (a_1c : Nat) (b_2p : Option Addr) (b_2l : Nat) (b_2c : Nat) : W :=
 BIf (((a_1l : Nat) : Int) != ((b_2l : Nat) : Int)) (
  k (.bool false)) (
  Loop [.slice, .slice, (.int .i64)] (F11_L1 k) a_1p a_1l a_1c b_2p b_2l b_2c 0)
theorem F11_eq (k : Value → W) (a_1p : Option Addr) (a_1l : Nat) (a_1c : Nat) (b_2p : Option Addr) (b_2l : Nat) (b_2c : Nat) : compF Go.Proofs.Tryd.prog Go.Proofs.Tryd.f11 [(4, [(0, .slice), (1, .slice), (5, (.int .i64))])] (Go.Proofs.Tryd.f11.body.getD .skip) [.slice a_1p a_1l a_1c, .slice b_2p b_2l b_2c] k = F11 k a_1p a_1l a_1c b_2p b_2l b_2c := by kernel_rfl
theorem F11_calls {a_1p : Option Addr} {a_1l : Nat} {a_1c : Nat} {b_2p : Option Addr} {b_2l : Nat} {b_2c : Nat} {w : World} {R : Ending → World → Prop} (h : F11 (fun v w => R (.returned v) w) a_1p a_1l a_1c b_2p b_2l b_2c w) : Calls Go.Proofs.Tryd.prog 11 #[.slice a_1p a_1l a_1c, .slice b_2p b_2l b_2c] w R :=
  calls_of_compF noNum follows [(4, [(0, .slice), (1, .slice), (5, (.int .i64))])] (f := 11) (fn := Go.Proofs.Tryd.f11) (body := Go.Proofs.Tryd.f11.body.getD .skip) (args := [.slice a_1p a_1l a_1c, .slice b_2p b_2l b_2c]) rfl rfl (Nat.le_of_ble_eq_true rfl) ((congrFun (F11_eq _ a_1p a_1l a_1c b_2p b_2l b_2c) w).mpr h)
theorem F11_call {a_1p : Option Addr} {a_1l : Nat} {a_1c : Nat} {b_2p : Option Addr} {b_2l : Nat} {b_2c : Nat} {w : World} {g : Fn W (RTy.leaves (.s (.one .bool)))} (h : F11 (fun v => Back (.s (.one .bool)) g (.returned v)) a_1p a_1l a_1c b_2p b_2l b_2c w) : CallT Go.Proofs.Tryd.prog 11 [.slice a_1p a_1l a_1c, .slice b_2p b_2l b_2c] (.s (.one .bool)) g w := F11_calls h

/-! ## laws.FnXFDeepMany -/
def F3_J2 (k : Value → W) (again31 : Option Addr → Nat → Nat → Option Addr → Nat → Nat → Addr → Addr → Int → W) (l_38p : Option Addr) (l_38l : Nat) (l_38c : Nat) (a_39p : Option Addr) (a_39l : Nat) (a_39c : Nat) (least_40 : Addr) (most_41 : Addr) (i_42 : Int) : W :=
 Drw <|
 NN l_38p fun a43 =>
 Req (0 ≤ i_42 ∧ i_42 < ((l_38l : Nat) : Int)) <|
 LoadT (.int .u64) (a43.add (i_42.toNat * 2)) fun x44 =>
 LoadT (.int .u64) most_41 fun x45 =>
 BIf (decide (x44 > x45)) (
  NN l_38p fun a46 =>
  Req (0 ≤ i_42 ∧ i_42 < ((l_38l : Nat) : Int)) <|
  LoadT (.int .u64) ((a46.add (i_42.toNat * 2)).add 0) fun x47 =>
  LoadT (.int .i64) ((a46.add (i_42.toNat * 2)).add 1) fun x48 =>
  Store1 (most_41.add 0) (.int .u64 x47) <|
  Store1 (most_41.add 1) (.int .i64 x48) <|
  again31 l_38p l_38l l_38c a_39p a_39l a_39c least_40 most_41 (addI .i64 i_42 1)) (
  again31 l_38p l_38l l_38c a_39p a_39l a_39c least_40 most_41 (addI .i64 i_42 1))
def F3_L1 (k : Value → W) (again31 : Option Addr → Nat → Nat → Option Addr → Nat → Nat → Addr → Addr → Int → W) (l_26p : Option Addr) (l_26l : Nat) (l_26c : Nat) (a_27p : Option Addr) (a_27l : Nat) (a_27c : Nat) (least_28 : Addr) (most_29 : Addr) (i_30 : Int) : W :=
 BIf (decide (i_30 < ((l_26l : Nat) : Int))) (
  Drw <|
  NN l_26p fun a32 =>
  Req (0 ≤ i_30 ∧ i_30 < ((l_26l : Nat) : Int)) <|
  LoadT (.int .u64) (a32.add (i_30.toNat * 2)) fun x33 =>
  LoadT (.int .u64) least_28 fun x34 =>
  BIf (decide (x33 < x34)) (
   NN l_26p fun a35 =>
   Req (0 ≤ i_30 ∧ i_30 < ((l_26l : Nat) : Int)) <|
   LoadT (.int .u64) ((a35.add (i_30.toNat * 2)).add 0) fun x36 =>
   LoadT (.int .i64) ((a35.add (i_30.toNat * 2)).add 1) fun x37 =>
   Store1 (least_28.add 0) (.int .u64 x36) <|
   Store1 (least_28.add 1) (.int .i64 x37) <|
   F3_J2 k again31 l_26p l_26l l_26c a_27p a_27l a_27c least_28 most_29 i_30) (
   F3_J2 k again31 l_26p l_26l l_26c a_27p a_27l a_27c least_28 most_29 i_30)) (
  Drw <|
  BIf (((a_27l : Nat) : Int) == (addI .i64 ((l_26l : Nat) : Int) 6)) (
   CallT Go.Proofs.Tryd.prog 10 [.slice a_27p a_27l a_27c, .slice l_26p l_26l l_26c] (.s (.one .bool)) fun b49 =>
   BIf b49 (
    NN a_27p fun a50 =>
    Req (0 ≤ addI .i64 ((l_26l : Nat) : Int) 4 ∧ addI .i64 ((l_26l : Nat) : Int) 4 < ((a_27l : Nat) : Int)) <|
    LoadT .slice (a50.add ((addI .i64 ((l_26l : Nat) : Int) 4).toNat * 3)) fun s51p s51l s51c =>
    LoadT (.int .u64) (least_28.add 0) fun x52 =>
    LoadT (.int .i64) (least_28.add 1) fun x53 =>
    RawT Go.Proofs.Tryd.prog (Instr.buildSlice 26 1 [(0, .agg #[.int .u64 x52, .int .i64 x53])].toArray) (.s (.one .slice)) fun s54p s54l s54c =>
    Chk1 (a50.add ((addI .i64 ((l_26l : Nat) : Int) 4).toNat * 3)) (.slice s51p s51l s51c) <|
    CallT Go.Proofs.Tryd.prog 11 [.slice s51p s51l s51c, .slice s54p s54l s54c] (.s (.one .bool)) fun b55 =>
    Chk1 (least_28.add 0) (.int .u64 x52) <|
    Chk1 (least_28.add 1) (.int .i64 x53) <|
    BIf b55 (
     NN a_27p fun a56 =>
     Req (0 ≤ addI .i64 ((l_26l : Nat) : Int) 5 ∧ addI .i64 ((l_26l : Nat) : Int) 5 < ((a_27l : Nat) : Int)) <|
     LoadT .slice (a56.add ((addI .i64 ((l_26l : Nat) : Int) 5).toNat * 3)) fun s57p s57l s57c =>
     LoadT (.int .u64) (most_29.add 0) fun x58 =>
     LoadT (.int .i64) (most_29.add 1) fun x59 =>
     RawT Go.Proofs.Tryd.prog (Instr.buildSlice 26 1 [(0, .agg #[.int .u64 x58, .int .i64 x59])].toArray) (.s (.one .slice)) fun s60p s60l s60c =>
     Chk1 (a56.add ((addI .i64 ((l_26l : Nat) : Int) 5).toNat * 3)) (.slice s57p s57l s57c) <|
     Chk1 (least_28.add 0) (.int .u64 x52) <|
     Chk1 (least_28.add 1) (.int .i64 x53) <|
     Chk1 (a50.add ((addI .i64 ((l_26l : Nat) : Int) 4).toNat * 3)) (.slice s51p s51l s51c) <|
     CallT Go.Proofs.Tryd.prog 11 [.slice s57p s57l s57c, .slice s60p s60l s60c] (.s (.one .bool)) fun b61 =>
     Chk1 (most_29.add 0) (.int .u64 x58) <|
     Chk1 (most_29.add 1) (.int .i64 x59) <|
     Chk1 (least_28.add 0) (.int .u64 x52) <|
     Chk1 (least_28.add 1) (.int .i64 x53) <|
     Chk1 (a50.add ((addI .i64 ((l_26l : Nat) : Int) 4).toNat * 3)) (.slice s51p s51l s51c) <|
     k (.bool b61)) (
     k (.bool false))) (
    k (.bool false))) (
   k (.bool false)))
theorem F3_L1_rule {k : Value → W} (I : Option Addr → Nat → Nat → Option Addr → Nat → Nat → Addr → Addr → Int → W) (μ : Option Addr → Nat → Nat → Option Addr → Nat → Nat → Addr → Addr → Int → World → Nat)
  (hr : ∀ (l_26p : Option Addr) (l_26l : Nat) (l_26c : Nat) (a_27p : Option Addr) (a_27l : Nat) (a_27c : Nat) (least_28 : Addr) (most_29 : Addr) (i_30 : Int) (w : World), I l_26p l_26l l_26c a_27p a_27l a_27c least_28 most_29 i_30 w → F3_L1 k (fun l_26p' l_26l' l_26c' a_27p' a_27l' a_27c' least_28' most_29' i_30' w' => I l_26p' l_26l' l_26c' a_27p' a_27l' a_27c' least_28' most_29' i_30' w' ∧ μ l_26p' l_26l' l_26c' a_27p' a_27l' a_27c' least_28' most_29' i_30' w' < μ l_26p l_26l l_26c a_27p a_27l a_27c least_28 most_29 i_30 w) l_26p l_26l l_26c a_27p a_27l a_27c least_28 most_29 i_30 w)
  {w : World} {l_26p : Option Addr} {l_26l : Nat} {l_26c : Nat} {a_27p : Option Addr} {a_27l : Nat} {a_27c : Nat} {least_28 : Addr} {most_29 : Addr} {i_30 : Int} (h : I l_26p l_26l l_26c a_27p a_27l a_27c least_28 most_29 i_30 w) : Loop [.slice, .slice, .addr, .addr, (.int .i64)] (F3_L1 k) l_26p l_26l l_26c a_27p a_27l a_27c least_28 most_29 i_30 w :=
  Loop_intro (ts := [.slice, .slice, .addr, .addr, (.int .i64)]) (s := ((l_26p, l_26l, l_26c), (a_27p, a_27l, a_27c), least_28, most_29, i_30, ())) (fun s w => I s.1.1 s.1.2.1 s.1.2.2 s.2.1.1 s.2.1.2.1 s.2.1.2.2 s.2.2.1 s.2.2.2.1 s.2.2.2.2.1 w) (fun s w => μ s.1.1 s.1.2.1 s.1.2.2 s.2.1.1 s.2.1.2.1 s.2.1.2.2 s.2.2.1 s.2.2.2.1 s.2.2.2.2.1 w) h (fun s w h => hr s.1.1 s.1.2.1 s.1.2.2 s.2.1.1 s.2.1.2.1 s.2.1.2.2 s.2.2.1 s.2.2.2.1 s.2.2.2.2.1 w h)
def F3_J1 (k : Value → W) (l_22p : Option Addr) (l_22l : Nat) (l_22c : Nat) (a_23p : Option Addr) (a_23l : Nat) (a_23c : Nat) (least_24 : Addr) (most_25 : Addr) : W :=
 Loop [.slice, .slice, .addr, .addr, (.int .i64)] (F3_L1 k) l_22p l_22l l_22c a_23p a_23l a_23c least_24 most_25 1
def F3 (k : Value → W) (size_1 : Int) (first_2 : Int) (by_3 : Int) (many_4 : Int) (cut_5 : Int) : W :=
 CallT Go.Proofs.Tryd.prog 7 [.int .u8 size_1] (.s (.one (.int .i64))) fun x6 =>
 CallT Go.Proofs.Tryd.prog 8 [.int .i64 x6, .int .u64 first_2, .int .u64 by_3, .int .u16 many_4, .int .u8 cut_5] (.tup [(.one .slice), (.one .slice)]) fun s7p s7l s7c s8p s8l s8c =>
 RawT Go.Proofs.Tryd.prog (Instr.buildSlice 31 1 [(0, .int .u64 0)].toArray) (.s (.one .slice)) fun s9p s9l s9c =>
 RawT Go.Proofs.Tryd.prog (Instr.buildSlice 31 1 [(0, .int .u64 0)].toArray) (.s (.one .slice)) fun s10p s10l s10c =>
 RawT Go.Proofs.Tryd.prog (Instr.buildSlice 25 2 [(0, .agg #[.int .i64 6, .slice none 0 0, .slice s9p s9l s9c]), (1, .agg #[.int .i64 7, .slice none 0 0, .slice s10p s10l s10c])].toArray) (.s (.one .slice)) fun s11p s11l s11c =>
 NextT Go.Proofs.Tryd.prog (builtin .append #[25, 25] 25 [false, false].toArray [.slice s7p s7l s7c, .slice s11p s11l s11c].toArray) (.s (.one .slice)) fun s12p s12l s12c =>
 CallT Go.Proofs.Tryd.prog 9 [.int .i64 x6, .slice s12p s12l s12c] (.s (.one .slice)) fun s13p s13l s13c =>
 Drw <|
 NN s8p fun a14 =>
 Req (0 ≤ (0 : Int) ∧ (0 : Int) < ((s8l : Nat) : Int)) <|
 LoadT (.int .u64) ((a14.add ((0 : Int).toNat * 2)).add 0) fun x15 =>
 LoadT (.int .i64) ((a14.add ((0 : Int).toNat * 2)).add 1) fun x16 =>
 NN s8p fun a17 =>
 Req (0 ≤ (0 : Int) ∧ (0 : Int) < ((s8l : Nat) : Int)) <|
 LoadT (.int .u64) ((a17.add ((0 : Int).toNat * 2)).add 0) fun x18 =>
 LoadT (.int .i64) ((a17.add ((0 : Int).toNat * 2)).add 1) fun x19 =>
 Both (
  New [.int .u64 0, .int .i64 0] 35 fun n20 =>
  Chk1 ((a17.add ((0 : Int).toNat * 2)).add 0) (.int .u64 x18) <|
  Chk1 ((a17.add ((0 : Int).toNat * 2)).add 1) (.int .i64 x19) <|
  Chk1 ((a14.add ((0 : Int).toNat * 2)).add 0) (.int .u64 x15) <|
  Chk1 ((a14.add ((0 : Int).toNat * 2)).add 1) (.int .i64 x16) <|
  New [.int .u64 0, .int .i64 0] 35 fun n21 =>
  Chk1 ((a17.add ((0 : Int).toNat * 2)).add 0) (.int .u64 x18) <|
  Chk1 ((a17.add ((0 : Int).toNat * 2)).add 1) (.int .i64 x19) <|
  Chk1 ((a14.add ((0 : Int).toNat * 2)).add 0) (.int .u64 x15) <|
  Chk1 ((a14.add ((0 : Int).toNat * 2)).add 1) (.int .i64 x16) <|
  Store1 ⟨n20, 0, none⟩ (.int .u64 x15) <|
  Store1 ⟨n20, 1, none⟩ (.int .i64 x16) <|
  Chk1 ((a17.add ((0 : Int).toNat * 2)).add 0) (.int .u64 x18) <|
  Chk1 ((a17.add ((0 : Int).toNat * 2)).add 1) (.int .i64 x19) <|
  Store1 ⟨n21, 0, none⟩ (.int .u64 x18) <|
  Store1 ⟨n21, 1, none⟩ (.int .i64 x19) <|
  F3_J1 k s8p s8l s8c s13p s13l s13c ⟨n20, 0, none⟩ ⟨n21, 0, none⟩) (
  New [.int .u64 0, .int .i64 0] 35 fun n62 =>
  Chk1 ((a17.add ((0 : Int).toNat * 2)).add 0) (.int .u64 x18) <|
  Chk1 ((a17.add ((0 : Int).toNat * 2)).add 1) (.int .i64 x19) <|
  Chk1 ((a14.add ((0 : Int).toNat * 2)).add 0) (.int .u64 x15) <|
  Chk1 ((a14.add ((0 : Int).toNat * 2)).add 1) (.int .i64 x16) <|
  New [.int .u64 0, .int .i64 0] 35 fun n63 =>
  Chk1 ((a17.add ((0 : Int).toNat * 2)).add 0) (.int .u64 x18) <|
  Chk1 ((a17.add ((0 : Int).toNat * 2)).add 1) (.int .i64 x19) <|
  Chk1 ((a14.add ((0 : Int).toNat * 2)).add 0) (.int .u64 x15) <|
  Chk1 ((a14.add ((0 : Int).toNat * 2)).add 1) (.int .i64 x16) <|
  Store1 ⟨n63, 0, none⟩ (.int .u64 x15) <|
  Store1 ⟨n63, 1, none⟩ (.int .i64 x16) <|
  Chk1 ((a17.add ((0 : Int).toNat * 2)).add 0) (.int .u64 x18) <|
  Chk1 ((a17.add ((0 : Int).toNat * 2)).add 1) (.int .i64 x19) <|
  Store1 ⟨n62, 0, none⟩ (.int .u64 x18) <|
  Store1 ⟨n62, 1, none⟩ (.int .i64 x19) <|
  F3_J1 k s8p s8l s8c s13p s13l s13c ⟨n63, 0, none⟩ ⟨n62, 0, none⟩)
theorem F3_eq (k : Value → W) (size_1 : Int) (first_2 : Int) (by_3 : Int) (many_4 : Int) (cut_5 : Int) : compF Go.Proofs.Tryd.prog Go.Proofs.Tryd.f3 [(6, [(13, .slice), (14, .slice), (15, .addr), (16, .addr), (17, (.int .i64))])] (Go.Proofs.Tryd.f3.body.getD .skip) [.int .u8 size_1, .int .u64 first_2, .int .u64 by_3, .int .u16 many_4, .int .u8 cut_5] k = F3 k size_1 first_2 by_3 many_4 cut_5 := by kernel_rfl
theorem F3_calls {size_1 : Int} {first_2 : Int} {by_3 : Int} {many_4 : Int} {cut_5 : Int} {w : World} {R : Ending → World → Prop} (h : F3 (fun v w => R (.returned v) w) size_1 first_2 by_3 many_4 cut_5 w) : Calls Go.Proofs.Tryd.prog 3 #[.int .u8 size_1, .int .u64 first_2, .int .u64 by_3, .int .u16 many_4, .int .u8 cut_5] w R :=
  calls_of_compF noNum follows [(6, [(13, .slice), (14, .slice), (15, .addr), (16, .addr), (17, (.int .i64))])] (f := 3) (fn := Go.Proofs.Tryd.f3) (body := Go.Proofs.Tryd.f3.body.getD .skip) (args := [.int .u8 size_1, .int .u64 first_2, .int .u64 by_3, .int .u16 many_4, .int .u8 cut_5]) rfl rfl (Nat.le_of_ble_eq_true rfl) ((congrFun (F3_eq _ size_1 first_2 by_3 many_4 cut_5) w).mpr h)
theorem F3_call {size_1 : Int} {first_2 : Int} {by_3 : Int} {many_4 : Int} {cut_5 : Int} {w : World} {g : Fn W (RTy.leaves (.s (.one .bool)))} (h : F3 (fun v => Back (.s (.one .bool)) g (.returned v)) size_1 first_2 by_3 many_4 cut_5 w) : CallT Go.Proofs.Tryd.prog 3 [.int .u8 size_1, .int .u64 first_2, .int .u64 by_3, .int .u16 many_4, .int .u8 cut_5] (.s (.one .bool)) g w := F3_calls h

/-! ## spec.TRSame -/
def F21_L1 (k : Value → W) (again6 : Option Addr → Nat → Nat → Option Addr → Nat → Nat → Int → W) (a_3p : Option Addr) (a_3l : Nat) (a_3c : Nat) (b_4p : Option Addr) (b_4l : Nat) (b_4c : Nat) (i_5 : Int) : W :=
 BIf (decide (i_5 < ((a_3l : Nat) : Int))) (
  Drw <|
  NN a_3p fun a7 =>
  Req (0 ≤ i_5 ∧ i_5 < ((a_3l : Nat) : Int)) <|
  LoadT (.int .u64) ((a7.add (i_5.toNat * 3)).add 1) fun x8 =>
  NN b_4p fun a9 =>
  Req (0 ≤ i_5 ∧ i_5 < ((b_4l : Nat) : Int)) <|
  LoadT (.int .u64) ((a9.add (i_5.toNat * 3)).add 1) fun x10 =>
  BIf (x8 != x10) (
   k (.bool false)) (
   NN a_3p fun a11 =>
   Req (0 ≤ i_5 ∧ i_5 < ((a_3l : Nat) : Int)) <|
   LoadT .bool ((a11.add (i_5.toNat * 3)).add 2) fun b12 =>
   NN b_4p fun a13 =>
   Req (0 ≤ i_5 ∧ i_5 < ((b_4l : Nat) : Int)) <|
   LoadT .bool ((a13.add (i_5.toNat * 3)).add 2) fun b14 =>
   BIf (!(b12 == b14)) (
    k (.bool false)) (
    NN a_3p fun a15 =>
    Req (0 ≤ i_5 ∧ i_5 < ((a_3l : Nat) : Int)) <|
    LoadT .slice (a15.add (i_5.toNat * 3)) fun s16p s16l s16c =>
    NN b_4p fun a17 =>
    Req (0 ≤ i_5 ∧ i_5 < ((b_4l : Nat) : Int)) <|
    LoadT .slice (a17.add (i_5.toNat * 3)) fun s18p s18l s18c =>
    CallT Go.Proofs.Tryd.prog 11 [.slice s16p s16l s16c, .slice s18p s18l s18c] (.s (.one .bool)) fun b19 =>
    Chk1 ((a13.add (i_5.toNat * 3)).add 2) (.bool b14) <|
    Chk1 ((a11.add (i_5.toNat * 3)).add 2) (.bool b12) <|
    Chk1 ((a9.add (i_5.toNat * 3)).add 1) (.int .u64 x10) <|
    Chk1 ((a7.add (i_5.toNat * 3)).add 1) (.int .u64 x8) <|
    BIf (!b19) (
     k (.bool false)) (
     again6 a_3p a_3l a_3c b_4p b_4l b_4c (addI .i64 i_5 1))))) (
  k (.bool true))
theorem F21_L1_rule {k : Value → W} (I : Option Addr → Nat → Nat → Option Addr → Nat → Nat → Int → W) (μ : Option Addr → Nat → Nat → Option Addr → Nat → Nat → Int → World → Nat)
  (hr : ∀ (a_3p : Option Addr) (a_3l : Nat) (a_3c : Nat) (b_4p : Option Addr) (b_4l : Nat) (b_4c : Nat) (i_5 : Int) (w : World), I a_3p a_3l a_3c b_4p b_4l b_4c i_5 w → F21_L1 k (fun a_3p' a_3l' a_3c' b_4p' b_4l' b_4c' i_5' w' => I a_3p' a_3l' a_3c' b_4p' b_4l' b_4c' i_5' w' ∧ μ a_3p' a_3l' a_3c' b_4p' b_4l' b_4c' i_5' w' < μ a_3p a_3l a_3c b_4p b_4l b_4c i_5 w) a_3p a_3l a_3c b_4p b_4l b_4c i_5 w)
  {w : World} {a_3p : Option Addr} {a_3l : Nat} {a_3c : Nat} {b_4p : Option Addr} {b_4l : Nat} {b_4c : Nat} {i_5 : Int} (h : I a_3p a_3l a_3c b_4p b_4l b_4c i_5 w) : Loop [.slice, .slice, (.int .i64)] (F21_L1 k) a_3p a_3l a_3c b_4p b_4l b_4c i_5 w :=
  Loop_intro (ts := [.slice, .slice, (.int .i64)]) (s := ((a_3p, a_3l, a_3c), (b_4p, b_4l, b_4c), i_5, ())) (fun s w => I s.1.1 s.1.2.1 s.1.2.2 s.2.1.1 s.2.1.2.1 s.2.1.2.2 s.2.2.1 w) (fun s w => μ s.1.1 s.1.2.1 s.1.2.2 s.2.1.1 s.2.1.2.1 s.2.1.2.2 s.2.2.1 w) h (fun s w h => hr s.1.1 s.1.2.1 s.1.2.2 s.2.1.1 s.2.1.2.1 s.2.1.2.2 s.2.2.1 w h)
def F21 (k : Value → W) (a_1p : Option Addr) (a_1l : Nat) (a_1c : Nat) (b_2p : Option Addr) (b_2l : Nat) (b_2c : Nat) : W :=
 BIf (((a_1l : Nat) : Int) != ((b_2l : Nat) : Int)) (
  k (.bool false)) (
  Loop [.slice, .slice, (.int .i64)] (F21_L1 k) a_1p a_1l a_1c b_2p b_2l b_2c 0)
theorem F21_eq (k : Value → W) (a_1p : Option Addr) (a_1l : Nat) (a_1c : Nat) (b_2p : Option Addr) (b_2l : Nat) (b_2c : Nat) : compF Go.Proofs.Tryd.prog Go.Proofs.Tryd.f21 [(4, [(0, .slice), (1, .slice), (5, (.int .i64))])] (Go.Proofs.Tryd.f21.body.getD .skip) [.slice a_1p a_1l a_1c, .slice b_2p b_2l b_2c] k = F21 k a_1p a_1l a_1c b_2p b_2l b_2c := by kernel_rfl
theorem F21_calls {a_1p : Option Addr} {a_1l : Nat} {a_1c : Nat} {b_2p : Option Addr} {b_2l : Nat} {b_2c : Nat} {w : World} {R : Ending → World → Prop} (h : F21 (fun v w => R (.returned v) w) a_1p a_1l a_1c b_2p b_2l b_2c w) : Calls Go.Proofs.Tryd.prog 21 #[.slice a_1p a_1l a_1c, .slice b_2p b_2l b_2c] w R :=
  calls_of_compF noNum follows [(4, [(0, .slice), (1, .slice), (5, (.int .i64))])] (f := 21) (fn := Go.Proofs.Tryd.f21) (body := Go.Proofs.Tryd.f21.body.getD .skip) (args := [.slice a_1p a_1l a_1c, .slice b_2p b_2l b_2c]) rfl rfl (Nat.le_of_ble_eq_true rfl) ((congrFun (F21_eq _ a_1p a_1l a_1c b_2p b_2l b_2c) w).mpr h)
theorem F21_call {a_1p : Option Addr} {a_1l : Nat} {a_1c : Nat} {b_2p : Option Addr} {b_2l : Nat} {b_2c : Nat} {w : World} {g : Fn W (RTy.leaves (.s (.one .bool)))} (h : F21 (fun v => Back (.s (.one .bool)) g (.returned v)) a_1p a_1l a_1c b_2p b_2l b_2c w) : CallT Go.Proofs.Tryd.prog 21 [.slice a_1p a_1l a_1c, .slice b_2p b_2l b_2c] (.s (.one .bool)) g w := F21_calls h

/-! ## laws.FnXYDeepMany -/
def F6 (k : Value → W) (size_1 : Int) (first_2 : Int) (by_3 : Int) (many_4 : Int) (cut_5 : Int) : W :=
 CallT Go.Proofs.Tryd.prog 7 [.int .u8 size_1] (.s (.one (.int .i64))) fun x6 =>
 CallT Go.Proofs.Tryd.prog 8 [.int .i64 x6, .int .u64 first_2, .int .u64 by_3, .int .u16 many_4, .int .u8 cut_5] (.tup [(.one .slice), (.one .slice)]) fun s7p s7l s7c s8p s8l s8c =>
 CallT Go.Proofs.Tryd.prog 9 [.int .i64 x6, .slice s7p s7l s7c] (.s (.one .slice)) fun s9p s9l s9c =>
 CallT Go.Proofs.Tryd.prog 15 [.int .i64 x6, .slice s7p s7l s7c] (.s (.one .slice)) fun s10p s10l s10c =>
 BIf (((s9l : Nat) : Int) != ((s7l : Nat) : Int)) (
  k (.bool false)) (
  BIf (((s10l : Nat) : Int) != ((s7l : Nat) : Int)) (
   k (.bool false)) (
   NN s9p fun a11 =>
   Req (0 ≤ (2 : Int) ∧ (2 : Int) < ((s9l : Nat) : Int)) <|
   LoadT (.int .u64) ((a11.add ((2 : Int).toNat * 3)).add 1) fun x12 =>
   BIf (x12 != (IntKind.wrap .u64 ((s8l : Nat) : Int))) (
    k (.bool false)) (
    Drw <|
    Req (0 ≤ (2 : Int) ∧ (2 : Int) ≤ ((s9l : Nat) : Int)) <|
    Req (0 ≤ (2 : Int) ∧ (2 : Int) ≤ ((s10l : Nat) : Int)) <|
    CallT Go.Proofs.Tryd.prog 21 [.slice (sliceA s9p 2 s9c 3) (s9l - 2) (s9c - 2), .slice (sliceA s10p 2 s10c 3) (s10l - 2) (s10c - 2)] (.s (.one .bool)) fun b13 =>
    k (.bool b13))))
theorem F6_eq (k : Value → W) (size_1 : Int) (first_2 : Int) (by_3 : Int) (many_4 : Int) (cut_5 : Int) : compF Go.Proofs.Tryd.prog Go.Proofs.Tryd.f6 [] (Go.Proofs.Tryd.f6.body.getD .skip) [.int .u8 size_1, .int .u64 first_2, .int .u64 by_3, .int .u16 many_4, .int .u8 cut_5] k = F6 k size_1 first_2 by_3 many_4 cut_5 := by kernel_rfl
theorem F6_calls {size_1 : Int} {first_2 : Int} {by_3 : Int} {many_4 : Int} {cut_5 : Int} {w : World} {R : Ending → World → Prop} (h : F6 (fun v w => R (.returned v) w) size_1 first_2 by_3 many_4 cut_5 w) : Calls Go.Proofs.Tryd.prog 6 #[.int .u8 size_1, .int .u64 first_2, .int .u64 by_3, .int .u16 many_4, .int .u8 cut_5] w R :=
  calls_of_compF noNum follows [] (f := 6) (fn := Go.Proofs.Tryd.f6) (body := Go.Proofs.Tryd.f6.body.getD .skip) (args := [.int .u8 size_1, .int .u64 first_2, .int .u64 by_3, .int .u16 many_4, .int .u8 cut_5]) rfl rfl (Nat.le_of_ble_eq_true rfl) ((congrFun (F6_eq _ size_1 first_2 by_3 many_4 cut_5) w).mpr h)
theorem F6_call {size_1 : Int} {first_2 : Int} {by_3 : Int} {many_4 : Int} {cut_5 : Int} {w : World} {g : Fn W (RTy.leaves (.s (.one .bool)))} (h : F6 (fun v => Back (.s (.one .bool)) g (.returned v)) size_1 first_2 by_3 many_4 cut_5 w) : CallT Go.Proofs.Tryd.prog 6 [.int .u8 size_1, .int .u64 first_2, .int .u64 by_3, .int .u16 many_4, .int .u8 cut_5] (.s (.one .bool)) g w := F6_calls h

end Go.Proofs.YtaacaokocamlcaaDoor.E

namespace Go.Proofs.YtaacaokocamlcaaDoor.E
open Go
set_option linter.unusedVariables false
set_option maxRecDepth 100000
/-! ## yfast.Entries).search$1 -/
def F65 (k : Value → W) (i_1 : Int) (a2 : Addr) (a3 : Addr) : W :=
 Drw <|
 LoadT .slice a2 fun s4p s4l s4c =>
 NN s4p fun a5 =>
 Req (0 ≤ i_1 ∧ i_1 < ((s4l : Nat) : Int)) <|
 LoadT .any (a5.add i_1.toNat) fun v6 =>
 LoadT (.int .u64) a3 fun x7 =>
 NextT Go.Proofs.Tryd.prog (callMethod v6 "Key" [].toArray) (.s (.one (.int .u64))) fun x8 =>
 Chk1 a3 (.int .u64 x7) <|
 Chk1 a2 (.slice s4p s4l s4c) <|
 k (.bool (decide (x8 ≥ x7)))
theorem F65_eq (k : Value → W) (i_1 : Int) (a2 : Addr) (a3 : Addr) : compF Go.Proofs.Tryd.prog Go.Proofs.Tryd.f65 [] (Go.Proofs.Tryd.f65.body.getD .skip) [.int .i64 i_1, .pointer (some a2), .pointer (some a3)] k = F65 k i_1 a2 a3 := by kernel_rfl
theorem F65_calls {i_1 : Int} {a2 : Addr} {a3 : Addr} {w : World} {R : Ending → World → Prop} (h : F65 (fun v w => R (.returned v) w) i_1 a2 a3 w) : Calls Go.Proofs.Tryd.prog 65 #[.int .i64 i_1, .pointer (some a2), .pointer (some a3)] w R :=
  calls_of_compF noNum follows [] (f := 65) (fn := Go.Proofs.Tryd.f65) (body := Go.Proofs.Tryd.f65.body.getD .skip) (args := [.int .i64 i_1, .pointer (some a2), .pointer (some a3)]) rfl rfl (Nat.le_of_ble_eq_true rfl) ((congrFun (F65_eq _ i_1 a2 a3) w).mpr h)
theorem F65_call {i_1 : Int} {a2 : Addr} {a3 : Addr} {w : World} {g : Fn W (RTy.leaves (.s (.one .bool)))} (h : F65 (fun v => Back (.s (.one .bool)) g (.returned v)) i_1 a2 a3 w) : CallT Go.Proofs.Tryd.prog 65 [.int .i64 i_1, .pointer (some a2), .pointer (some a3)] (.s (.one .bool)) g w := F65_calls h

end Go.Proofs.YtaacaokocamlcaaDoor.E
