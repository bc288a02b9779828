/-
  Printed by this session's own program eng.py out of Lean's print of the loaded functions: what each function's body asks, in the engine's words; each is checked against the program by the kernel.
-/
import Derived.Test.YtaacaokocamlcaaDoorEng
import Derived.Test.YtaacaokocamlcaaDoorFnsA
namespace Go.Proofs.YtaacaokocamlcaaDoor.E
open Go
set_option linter.unusedVariables false
set_option maxRecDepth 100000
/-! ## yfast.YFastTrie).init -/
def F44_J1 (k : Value → W) (yfast_7 : Option Addr) (intType_8 : Value) : W :=
 CallT Go.Proofs.Tryd.prog 22 [intType_8] (.s (.one .ptr)) fun p9 =>
 NN yfast_7 fun a10 =>
 Store1 (a10.add 1) (.pointer p9) <|
 k (.tuple #[])
def F44_J2 (k : Value → W) (yfast_25 : Option Addr) (intType_26 : Value) (b27 : Bool) : W :=
 BIf b27 (
  NN yfast_25 fun a28 =>
  Store1 (a28.add 2) (.int .u8 64) <|
  F44_J1 k yfast_25 intType_26) (
  bot)
def F44 (k : Value → W) (yfast_1 : Option Addr) (intType_2 : Value) : W :=
 RawS Go.Proofs.Tryd.prog (Instr.typeAssert intType_2 20 5 true) (.s (.one .any)) fun v3 =>
 ExtW v3 1 (.one .bool) fun b4 =>
 ExtW v3 0 (.one (.int .u8)) fun x5 =>
 BIf b4 (
  NN yfast_1 fun a6 =>
  Store1 (a6.add 2) (.int .u8 8) <|
  F44_J1 k yfast_1 intType_2) (
  RawS Go.Proofs.Tryd.prog (Instr.typeAssert intType_2 20 23 true) (.s (.one .any)) fun v11 =>
  ExtW v11 1 (.one .bool) fun b12 =>
  ExtW v11 0 (.one (.int .u16)) fun x13 =>
  BIf b12 (
   NN yfast_1 fun a14 =>
   Store1 (a14.add 2) (.int .u8 16) <|
   F44_J1 k yfast_1 intType_2) (
   RawS Go.Proofs.Tryd.prog (Instr.typeAssert intType_2 20 84 true) (.s (.one .any)) fun v15 =>
   ExtW v15 1 (.one .bool) fun b16 =>
   ExtW v15 0 (.one (.int .u32)) fun x17 =>
   BIf b16 (
    NN yfast_1 fun a18 =>
    Store1 (a18.add 2) (.int .u8 32) <|
    F44_J1 k yfast_1 intType_2) (
    RawS Go.Proofs.Tryd.prog (Instr.typeAssert intType_2 20 68 true) (.s (.one .any)) fun v19 =>
    ExtW v19 1 (.one .bool) fun b20 =>
    ExtW v19 0 (.one (.int .u64)) fun x21 =>
    RawS Go.Proofs.Tryd.prog (Instr.typeAssert intType_2 20 22 true) (.s (.one .any)) fun v22 =>
    ExtW v22 1 (.one .bool) fun b23 =>
    ExtW v22 0 (.one (.int .u64)) fun x24 =>
    BIf b20 (
     F44_J2 k yfast_1 intType_2 true) (
     F44_J2 k yfast_1 intType_2 b23))))
theorem F44_eq (k : Value → W) (yfast_1 : Option Addr) (intType_2 : Value) : compF Go.Proofs.Tryd.prog Go.Proofs.Tryd.f44 [] (Go.Proofs.Tryd.f44.body.getD .skip) [.pointer yfast_1, intType_2] k = F44 k yfast_1 intType_2 := by kernel_rfl
theorem F44_calls {yfast_1 : Option Addr} {intType_2 : Value} {w : World} {R : Ending → World → Prop} (h : F44 (fun v w => R (.returned v) w) yfast_1 intType_2 w) : Calls Go.Proofs.Tryd.prog 44 #[.pointer yfast_1, intType_2] w R :=
  calls_of_compF noNum follows [] (f := 44) (fn := Go.Proofs.Tryd.f44) (body := Go.Proofs.Tryd.f44.body.getD .skip) (args := [.pointer yfast_1, intType_2]) rfl rfl (Nat.le_of_ble_eq_true rfl) ((congrFun (F44_eq _ yfast_1 intType_2) w).mpr h)
theorem F44_call {yfast_1 : Option Addr} {intType_2 : Value} {w : World} {g : Fn W (RTy.leaves (.tup []))} (h : F44 (fun v => Back (.tup []) g (.returned v)) yfast_1 intType_2 w) : CallT Go.Proofs.Tryd.prog 44 [.pointer yfast_1, intType_2] (.tup []) g w := F44_calls h

/-! ## yfast.New -/
def F33 (k : Value → W) (ifc_1 : Value) : W :=
 New [.int .u64 0, .pointer none, .int .u8 0] 94 fun n2 =>
 CallT Go.Proofs.Tryd.prog 44 [.pointer (some ⟨n2, 0, none⟩), ifc_1] (.tup []) <|
 k (.pointer (some ⟨n2, 0, none⟩))
theorem F33_eq (k : Value → W) (ifc_1 : Value) : compF Go.Proofs.Tryd.prog Go.Proofs.Tryd.f33 [] (Go.Proofs.Tryd.f33.body.getD .skip) [ifc_1] k = F33 k ifc_1 := by kernel_rfl
theorem F33_calls {ifc_1 : Value} {w : World} {R : Ending → World → Prop} (h : F33 (fun v w => R (.returned v) w) ifc_1 w) : Calls Go.Proofs.Tryd.prog 33 #[ifc_1] w R :=
  calls_of_compF noNum follows [] (f := 33) (fn := Go.Proofs.Tryd.f33) (body := Go.Proofs.Tryd.f33.body.getD .skip) (args := [ifc_1]) rfl rfl (Nat.le_of_ble_eq_true rfl) ((congrFun (F33_eq _ ifc_1) w).mpr h)
theorem F33_call {ifc_1 : Value} {w : World} {g : Fn W (RTy.leaves (.s (.one .ptr)))} (h : F33 (fun v => Back (.s (.one .ptr)) g (.returned v)) ifc_1 w) : CallT Go.Proofs.Tryd.prog 33 [ifc_1] (.s (.one .ptr)) g w := F33_calls h

/-! ## impl.yfSaid -/
def F34_L1 (k : Value → W) (again9 : Addr → Addr → Option Addr → Nat → Nat → Int → Int → W) (a4 : Addr) (out_5 : Addr) (s6p : Option Addr) (s6l : Nat) (s6c : Nat) (x7 : Int) (x8 : Int) : W :=
 BIf (decide (x8 < x7)) (
  NN s6p fun a10 =>
  Req (0 ≤ x8 ∧ x8 < ((s6l : Nat) : Int)) <|
  LoadT .any (a10.add x8.toNat) fun v11 =>
  RawS Go.Proofs.Tryd.prog (Instr.typeAssert v11 76 57 true) (.tup [(.agg [(.int .u64), (.int .i64)]), (.one .bool)]) fun x12 x13 b14 =>
  New [.int .u64 0, .int .i64 0] 57 fun n15 =>
  Store1 ⟨n15, 0, none⟩ (.int .u64 x12) <|
  Store1 ⟨n15, 1, none⟩ (.int .i64 x13) <|
  BIf b14 (
   LoadT .slice out_5 fun s16p s16l s16c =>
   LoadT (.int .u64) ⟨n15, 0, none⟩ fun x17 =>
   LoadT (.int .i64) ⟨n15, 1, none⟩ fun x18 =>
   RawT Go.Proofs.Tryd.prog (Instr.buildSlice 26 1 [(0, .agg #[.int .u64 x17, .int .i64 x18])].toArray) (.s (.one .slice)) fun s19p s19l s19c =>
   NextT Go.Proofs.Tryd.prog (builtin .append #[26, 26] 26 [false, false].toArray [.slice s16p s16l s16c, .slice s19p s19l s19c].toArray) (.s (.one .slice)) fun s20p s20l s20c =>
   Store1 out_5 (.slice s20p s20l s20c) <|
   again9 a4 out_5 s6p s6l s6c x7 (addI .i64 x8 1)) (
   again9 a4 out_5 s6p s6l s6c x7 (addI .i64 x8 1))) (
  LoadT .slice (out_5.add 0) fun s21p s21l s21c =>
  LoadT (.int .u64) (out_5.add 1) fun x22 =>
  LoadT .bool (out_5.add 2) fun b23 =>
  Store1 (a4.add 0) (.slice s21p s21l s21c) <|
  Store1 (a4.add 1) (.int .u64 x22) <|
  Store1 (a4.add 2) (.bool b23) <|
  LoadT .slice (a4.add 0) fun s24p s24l s24c =>
  LoadT (.int .u64) (a4.add 1) fun x25 =>
  LoadT .bool (a4.add 2) fun b26 =>
  k (.agg #[.slice s24p s24l s24c, .int .u64 x25, .bool b26]))
theorem F34_L1_rule {k : Value → W} (I : Addr → Addr → Option Addr → Nat → Nat → Int → Int → W) (μ : Addr → Addr → Option Addr → Nat → Nat → Int → Int → World → Nat)
  (hr : ∀ (a4 : Addr) (out_5 : Addr) (s6p : Option Addr) (s6l : Nat) (s6c : Nat) (x7 : Int) (x8 : Int) (w : World), I a4 out_5 s6p s6l s6c x7 x8 w → F34_L1 k (fun a4' out_5' s6p' s6l' s6c' x7' x8' w' => I a4' out_5' s6p' s6l' s6c' x7' x8' w' ∧ μ a4' out_5' s6p' s6l' s6c' x7' x8' w' < μ a4 out_5 s6p s6l s6c x7 x8 w) a4 out_5 s6p s6l s6c x7 x8 w)
  {w : World} {a4 : Addr} {out_5 : Addr} {s6p : Option Addr} {s6l : Nat} {s6c : Nat} {x7 : Int} {x8 : Int} (h : I a4 out_5 s6p s6l s6c x7 x8 w) : Loop [.addr, .addr, .slice, (.int .i64), (.int .i64)] (F34_L1 k) a4 out_5 s6p s6l s6c x7 x8 w :=
  Loop_intro (ts := [.addr, .addr, .slice, (.int .i64), (.int .i64)]) (s := (a4, out_5, (s6p, s6l, s6c), x7, x8, ())) (fun s w => I s.1 s.2.1 s.2.2.1.1 s.2.2.1.2.1 s.2.2.1.2.2 s.2.2.2.1 s.2.2.2.2.1 w) (fun s w => μ s.1 s.2.1 s.2.2.1.1 s.2.2.1.2.1 s.2.2.1.2.2 s.2.2.2.1 s.2.2.2.2.1 w) h (fun s w h => hr s.1 s.2.1 s.2.2.1.1 s.2.2.1.2.1 s.2.2.1.2.2 s.2.2.2.1 s.2.2.2.2.1 w h)
def F34 (k : Value → W) (l_1p : Option Addr) (l_1l : Nat) (l_1c : Nat) : W :=
 New [.slice none 0 0, .int .u64 0, .bool false] 39 fun n2 =>
 New [.slice none 0 0, .int .u64 0, .bool false] 39 fun n3 =>
 Loop [.addr, .addr, .slice, (.int .i64), (.int .i64)] (F34_L1 k) ⟨n2, 0, none⟩ ⟨n3, 0, none⟩ l_1p l_1l l_1c ((l_1l : Nat) : Int) 0
theorem F34_eq (k : Value → W) (l_1p : Option Addr) (l_1l : Nat) (l_1c : Nat) : compF Go.Proofs.Tryd.prog Go.Proofs.Tryd.f34 [(3, [(2, .addr), (3, .addr), (8, .slice), (9, (.int .i64)), (10, (.int .i64))])] (Go.Proofs.Tryd.f34.body.getD .skip) [.slice l_1p l_1l l_1c] k = F34 k l_1p l_1l l_1c := by kernel_rfl
theorem F34_calls {l_1p : Option Addr} {l_1l : Nat} {l_1c : Nat} {w : World} {R : Ending → World → Prop} (h : F34 (fun v w => R (.returned v) w) l_1p l_1l l_1c w) : Calls Go.Proofs.Tryd.prog 34 #[.slice l_1p l_1l l_1c] w R :=
  calls_of_compF noNum follows [(3, [(2, .addr), (3, .addr), (8, .slice), (9, (.int .i64)), (10, (.int .i64))])] (f := 34) (fn := Go.Proofs.Tryd.f34) (body := Go.Proofs.Tryd.f34.body.getD .skip) (args := [.slice l_1p l_1l l_1c]) rfl rfl (Nat.le_of_ble_eq_true rfl) ((congrFun (F34_eq _ l_1p l_1l l_1c) w).mpr h)
theorem F34_call {l_1p : Option Addr} {l_1l : Nat} {l_1c : Nat} {w : World} {g : Fn W (RTy.leaves (.s (.agg [.slice, (.int .u64), .bool])))} (h : F34 (fun v => Back (.s (.agg [.slice, (.int .u64), .bool])) g (.returned v)) l_1p l_1l l_1c w) : CallT Go.Proofs.Tryd.prog 34 [.slice l_1p l_1l l_1c] (.s (.agg [.slice, (.int .u64), .bool])) g w := F34_calls h

/-! ## yfast.YFastTrie).getBucketKey -/
def F58 (k : Value → W) (yfast_1 : Option Addr) (key_2 : Int) : W :=
 NN yfast_1 fun a3 =>
 LoadT (.int .u8) (a3.add 2) fun x4 =>
 Req (IntKind.wrap .u64 x4 ≠ (0 : Int)) <|
 Bind (addI .u64 (quoI .u64 key_2 (IntKind.wrap .u64 x4)) 1 : Int) fun i_5 =>
 NN yfast_1 fun a6 =>
 LoadT (.int .u8) (a6.add 2) fun x7 =>
 Bind (subI .u64 (mulI .u64 (IntKind.wrap .u64 x7) i_5) 1 : Int) fun y8 =>
 k (.int .u64 y8)
theorem F58_eq (k : Value → W) (yfast_1 : Option Addr) (key_2 : Int) : compF Go.Proofs.Tryd.prog Go.Proofs.Tryd.f58 [] (Go.Proofs.Tryd.f58.body.getD .skip) [.pointer yfast_1, .int .u64 key_2] k = F58 k yfast_1 key_2 := by kernel_rfl
theorem F58_calls {yfast_1 : Option Addr} {key_2 : Int} {w : World} {R : Ending → World → Prop} (h : F58 (fun v w => R (.returned v) w) yfast_1 key_2 w) : Calls Go.Proofs.Tryd.prog 58 #[.pointer yfast_1, .int .u64 key_2] w R :=
  calls_of_compF noNum follows [] (f := 58) (fn := Go.Proofs.Tryd.f58) (body := Go.Proofs.Tryd.f58.body.getD .skip) (args := [.pointer yfast_1, .int .u64 key_2]) rfl rfl (Nat.le_of_ble_eq_true rfl) ((congrFun (F58_eq _ yfast_1 key_2) w).mpr h)
theorem F58_call {yfast_1 : Option Addr} {key_2 : Int} {w : World} {g : Fn W (RTy.leaves (.s (.one (.int .u64))))} (h : F58 (fun v => Back (.s (.one (.int .u64))) g (.returned v)) yfast_1 key_2 w) : CallT Go.Proofs.Tryd.prog 58 [.pointer yfast_1, .int .u64 key_2] (.s (.one (.int .u64))) g w := F58_calls h

/-! ## sort.Search -/
def F64_L1 (k : Value → W) (again6 : Value → Int → Int → W) (f_3 : Value) (i_4 : Int) (j_5 : Int) : W :=
 BIf (decide (i_4 < j_5)) (
  Bind (IntKind.wrap .i64 (shrI .u64 (IntKind.wrap .u64 (addI .i64 i_4 j_5)) 1) : Int) fun h_7 =>
  NextT Go.Proofs.Tryd.prog (callV f_3 [.int .i64 h_7].toArray) (.s (.one .bool)) fun b8 =>
  BIf (!b8) (
   again6 f_3 (addI .i64 h_7 1) j_5) (
   again6 f_3 i_4 h_7)) (
  k (.int .i64 i_4))
theorem F64_L1_rule {k : Value → W} (I : Value → Int → Int → W) (μ : Value → Int → Int → World → Nat)
  (hr : ∀ (f_3 : Value) (i_4 : Int) (j_5 : Int) (w : World), I f_3 i_4 j_5 w → F64_L1 k (fun f_3' i_4' j_5' w' => I f_3' i_4' j_5' w' ∧ μ f_3' i_4' j_5' w' < μ f_3 i_4 j_5 w) f_3 i_4 j_5 w)
  {w : World} {f_3 : Value} {i_4 : Int} {j_5 : Int} (h : I f_3 i_4 j_5 w) : Loop [.any, (.int .i64), (.int .i64)] (F64_L1 k) f_3 i_4 j_5 w :=
  Loop_intro (ts := [.any, (.int .i64), (.int .i64)]) (s := (f_3, i_4, j_5, ())) (fun s w => I s.1 s.2.1 s.2.2.1 w) (fun s w => μ s.1 s.2.1 s.2.2.1 w) h (fun s w h => hr s.1 s.2.1 s.2.2.1 w h)
def F64 (k : Value → W) (n_1 : Int) (f_2 : Value) : W :=
 Loop [.any, (.int .i64), (.int .i64)] (F64_L1 k) f_2 0 n_1
theorem F64_eq (k : Value → W) (n_1 : Int) (f_2 : Value) : compF Go.Proofs.Tryd.prog Go.Proofs.Tryd.f64 [(2, [(1, .any), (5, (.int .i64)), (6, (.int .i64))])] (Go.Proofs.Tryd.f64.body.getD .skip) [.int .i64 n_1, f_2] k = F64 k n_1 f_2 := by kernel_rfl
theorem F64_calls {n_1 : Int} {f_2 : Value} {w : World} {R : Ending → World → Prop} (h : F64 (fun v w => R (.returned v) w) n_1 f_2 w) : Calls Go.Proofs.Tryd.prog 64 #[.int .i64 n_1, f_2] w R :=
  calls_of_compF noNum follows [(2, [(1, .any), (5, (.int .i64)), (6, (.int .i64))])] (f := 64) (fn := Go.Proofs.Tryd.f64) (body := Go.Proofs.Tryd.f64.body.getD .skip) (args := [.int .i64 n_1, f_2]) rfl rfl (Nat.le_of_ble_eq_true rfl) ((congrFun (F64_eq _ n_1 f_2) w).mpr h)
theorem F64_call {n_1 : Int} {f_2 : Value} {w : World} {g : Fn W (RTy.leaves (.s (.one (.int .i64))))} (h : F64 (fun v => Back (.s (.one (.int .i64))) g (.returned v)) n_1 f_2 w) : CallT Go.Proofs.Tryd.prog 64 [.int .i64 n_1, f_2] (.s (.one (.int .i64))) g w := F64_calls h

/-! ## yfast.Entries).search -/
def F63 (k : Value → W) (entries_1p : Option Addr) (entries_1l : Nat) (entries_1c : Nat) (key_2 : Int) : W :=
 New [.slice entries_1p entries_1l entries_1c] 73 fun n3 =>
 New [.int .u64 key_2] 22 fun n4 =>
 LoadT .slice ⟨n3, 0, none⟩ fun s5p s5l s5c =>
 CallT Go.Proofs.Tryd.prog 64 [.int .i64 ((s5l : Nat) : Int), .func (.func 65) #[] #[.pointer (some ⟨n3, 0, none⟩), .pointer (some ⟨n4, 0, none⟩)]] (.s (.one (.int .i64))) fun x6 =>
 k (.int .i64 x6)
theorem F63_eq (k : Value → W) (entries_1p : Option Addr) (entries_1l : Nat) (entries_1c : Nat) (key_2 : Int) : compF Go.Proofs.Tryd.prog Go.Proofs.Tryd.f63 [] (Go.Proofs.Tryd.f63.body.getD .skip) [.slice entries_1p entries_1l entries_1c, .int .u64 key_2] k = F63 k entries_1p entries_1l entries_1c key_2 := by kernel_rfl
theorem F63_calls {entries_1p : Option Addr} {entries_1l : Nat} {entries_1c : Nat} {key_2 : Int} {w : World} {R : Ending → World → Prop} (h : F63 (fun v w => R (.returned v) w) entries_1p entries_1l entries_1c key_2 w) : Calls Go.Proofs.Tryd.prog 63 #[.slice entries_1p entries_1l entries_1c, .int .u64 key_2] w R :=
  calls_of_compF noNum follows [] (f := 63) (fn := Go.Proofs.Tryd.f63) (body := Go.Proofs.Tryd.f63.body.getD .skip) (args := [.slice entries_1p entries_1l entries_1c, .int .u64 key_2]) rfl rfl (Nat.le_of_ble_eq_true rfl) ((congrFun (F63_eq _ entries_1p entries_1l entries_1c key_2) w).mpr h)
theorem F63_call {entries_1p : Option Addr} {entries_1l : Nat} {entries_1c : Nat} {key_2 : Int} {w : World} {g : Fn W (RTy.leaves (.s (.one (.int .i64))))} (h : F63 (fun v => Back (.s (.one (.int .i64))) g (.returned v)) entries_1p entries_1l entries_1c key_2 w) : CallT Go.Proofs.Tryd.prog 63 [.slice entries_1p entries_1l entries_1c, .int .u64 key_2] (.s (.one (.int .i64))) g w := F63_calls h

/-! ## yfast.Entries).insert -/
def F59 (k : Value → W) (entries_1 : Option Addr) (entry_2 : Value) : W :=
 Drw <|
 NN entries_1 fun a3 =>
 LoadT .slice a3 fun s4p s4l s4c =>
 NextT Go.Proofs.Tryd.prog (callMethod entry_2 "Key" [].toArray) (.s (.one (.int .u64))) fun x5 =>
 Chk1 a3 (.slice s4p s4l s4c) <|
 CallT Go.Proofs.Tryd.prog 63 [.slice s4p s4l s4c, .int .u64 x5] (.s (.one (.int .i64))) fun x6 =>
 NN entries_1 fun a7 =>
 LoadT .slice a7 fun s8p s8l s8c =>
 BIf (x6 == ((s8l : Nat) : Int)) (
  NN entries_1 fun a9 =>
  LoadT .slice a9 fun s10p s10l s10c =>
  RawT Go.Proofs.Tryd.prog (Instr.buildSlice 73 1 [(0, entry_2)].toArray) (.s (.one .slice)) fun s11p s11l s11c =>
  NextT Go.Proofs.Tryd.prog (builtin .append #[73, 73] 73 [false, false].toArray [.slice s10p s10l s10c, .slice s11p s11l s11c].toArray) (.s (.one .slice)) fun s12p s12l s12c =>
  NN entries_1 fun a13 =>
  Store1 a13 (.slice s12p s12l s12c) <|
  k .nilIface) (
  NN entries_1 fun a14 =>
  LoadT .slice a14 fun s15p s15l s15c =>
  NN s15p fun a16 =>
  Req (0 ≤ x6 ∧ x6 < ((s15l : Nat) : Int)) <|
  LoadT .any (a16.add x6.toNat) fun v17 =>
  NextT Go.Proofs.Tryd.prog (callMethod v17 "Key" [].toArray) (.s (.one (.int .u64))) fun x18 =>
  NextT Go.Proofs.Tryd.prog (callMethod entry_2 "Key" [].toArray) (.s (.one (.int .u64))) fun x19 =>
  BIf (x18 == x19) (
   NN entries_1 fun a20 =>
   LoadT .slice a20 fun s21p s21l s21c =>
   NN s21p fun a22 =>
   Req (0 ≤ x6 ∧ x6 < ((s21l : Nat) : Int)) <|
   LoadT .any (a22.add x6.toNat) fun v23 =>
   NN entries_1 fun a24 =>
   LoadT .slice a24 fun s25p s25l s25c =>
   NN s25p fun a26 =>
   Req (0 ≤ x6 ∧ x6 < ((s25l : Nat) : Int)) <|
   Req (oneC entry_2 = true) <|
   Store1 (a26.add x6.toNat) entry_2 <|
   k v23) (
   NN entries_1 fun a27 =>
   LoadT .slice a27 fun s28p s28l s28c =>
   RawT Go.Proofs.Tryd.prog (Instr.buildSlice 73 1 [(0, .nilIface)].toArray) (.s (.one .slice)) fun s29p s29l s29c =>
   NextT Go.Proofs.Tryd.prog (builtin .append #[73, 73] 73 [false, false].toArray [.slice s28p s28l s28c, .slice s29p s29l s29c].toArray) (.s (.one .slice)) fun s30p s30l s30c =>
   NN entries_1 fun a31 =>
   Store1 a31 (.slice s30p s30l s30c) <|
   Drw <|
   NN entries_1 fun a32 =>
   LoadT .slice a32 fun s33p s33l s33c =>
   Req (0 ≤ addI .i64 x6 1 ∧ addI .i64 x6 1 ≤ ((s33l : Nat) : Int)) <|
   NN entries_1 fun a34 =>
   LoadT .slice a34 fun s35p s35l s35c =>
   Req (0 ≤ x6 ∧ x6 ≤ ((s35l : Nat) : Int)) <|
   NextT Go.Proofs.Tryd.prog (builtin .copy #[73, 73] 3 [false, false].toArray [.slice (sliceA s33p ((addI .i64 x6 1).toNat) s33c 1) (s33l - ((addI .i64 x6 1).toNat)) (s33c - ((addI .i64 x6 1).toNat)), .slice (sliceA s35p x6.toNat s35c 1) (s35l - x6.toNat) (s35c - x6.toNat)].toArray) (.s (.one (.int .i64))) fun x36 =>
   Chk1 a34 (.slice s35p s35l s35c) <|
   Chk1 a32 (.slice s33p s33l s33c) <|
   NN entries_1 fun a37 =>
   LoadT .slice a37 fun s38p s38l s38c =>
   NN s38p fun a39 =>
   Req (0 ≤ x6 ∧ x6 < ((s38l : Nat) : Int)) <|
   Req (oneC entry_2 = true) <|
   Store1 (a39.add x6.toNat) entry_2 <|
   k .nilIface))
theorem F59_eq (k : Value → W) (entries_1 : Option Addr) (entry_2 : Value) : compF Go.Proofs.Tryd.prog Go.Proofs.Tryd.f59 [] (Go.Proofs.Tryd.f59.body.getD .skip) [.pointer entries_1, entry_2] k = F59 k entries_1 entry_2 := by kernel_rfl
theorem F59_calls {entries_1 : Option Addr} {entry_2 : Value} {w : World} {R : Ending → World → Prop} (h : F59 (fun v w => R (.returned v) w) entries_1 entry_2 w) : Calls Go.Proofs.Tryd.prog 59 #[.pointer entries_1, entry_2] w R :=
  calls_of_compF noNum follows [] (f := 59) (fn := Go.Proofs.Tryd.f59) (body := Go.Proofs.Tryd.f59.body.getD .skip) (args := [.pointer entries_1, entry_2]) rfl rfl (Nat.le_of_ble_eq_true rfl) ((congrFun (F59_eq _ entries_1 entry_2) w).mpr h)
theorem F59_call {entries_1 : Option Addr} {entry_2 : Value} {w : World} {g : Fn W (RTy.leaves (.s (.one .any)))} (h : F59 (fun v => Back (.s (.one .any)) g (.returned v)) entries_1 entry_2 w) : CallT Go.Proofs.Tryd.prog 59 [.pointer entries_1, entry_2] (.s (.one .any)) g w := F59_calls h

/-! ## yfast.YFastTrie).insert -/
def F45 (k : Value → W) (yfast_1 : Option Addr) (entry_2 : Value) : W :=
 NextT Go.Proofs.Tryd.prog (callMethod entry_2 "Key" [].toArray) (.s (.one (.int .u64))) fun x3 =>
 CallT Go.Proofs.Tryd.prog 58 [.pointer yfast_1, .int .u64 x3] (.s (.one (.int .u64))) fun x4 =>
 NN yfast_1 fun a5 =>
 LoadT .ptr (a5.add 1) fun p6 =>
 CallT Go.Proofs.Tryd.prog 27 [.pointer p6, .int .u64 x4] (.s (.one .any)) fun v7 =>
 IfaceNil v7 fun b8 =>
 BIf (!b8) (
  TAs v7 108 (.s (.one .ptr)) fun p9 =>
  NN p9 fun a10 =>
  CallT Go.Proofs.Tryd.prog 59 [.pointer (some (a10.add 1)), entry_2] (.s (.one .any)) fun v11 =>
  IfaceNil v11 fun b12 =>
  BIf b12 (
   NN yfast_1 fun a13 =>
   LoadT (.int .u64) a13 fun x14 =>
   Store1 a13 (.int .u64 (addI .u64 x14 1)) <|
   k .nilIface) (
   k v11)) (
  NN yfast_1 fun a15 =>
  LoadT (.int .u64) a15 fun x16 =>
  Store1 a15 (.int .u64 (addI .u64 x16 1)) <|
  NN yfast_1 fun a17 =>
  LoadT (.int .u8) (a17.add 2) fun x18 =>
  RawT Go.Proofs.Tryd.prog (Instr.makeSlice 73 (.int .i64 0) (.int .u8 x18)) (.s (.one .slice)) fun s19p s19l s19c =>
  New [.slice none 0 0] 73 fun n20 =>
  Store1 ⟨n20, 0, none⟩ (.slice s19p s19l s19c) <|
  CallT Go.Proofs.Tryd.prog 59 [.pointer (some ⟨n20, 0, none⟩), entry_2] (.s (.one .any)) fun v21 =>
  LoadT .slice ⟨n20, 0, none⟩ fun s22p s22l s22c =>
  New [.int .u64 x4, .slice s22p s22l s22c] 107 fun n23 =>
  NN yfast_1 fun a24 =>
  LoadT .ptr (a24.add 1) fun p25 =>
  RawT Go.Proofs.Tryd.prog (Instr.buildSlice 55 1 [(0, .iface 108 (.pointer (some ⟨n23, 0, none⟩)))].toArray) (.s (.one .slice)) fun s26p s26l s26c =>
  CallT Go.Proofs.Tryd.prog 24 [.pointer p25, .slice s26p s26l s26c] (.tup []) <|
  k .nilIface)
theorem F45_eq (k : Value → W) (yfast_1 : Option Addr) (entry_2 : Value) : compF Go.Proofs.Tryd.prog Go.Proofs.Tryd.f45 [] (Go.Proofs.Tryd.f45.body.getD .skip) [.pointer yfast_1, entry_2] k = F45 k yfast_1 entry_2 := by kernel_rfl
theorem F45_calls {yfast_1 : Option Addr} {entry_2 : Value} {w : World} {R : Ending → World → Prop} (h : F45 (fun v w => R (.returned v) w) yfast_1 entry_2 w) : Calls Go.Proofs.Tryd.prog 45 #[.pointer yfast_1, entry_2] w R :=
  calls_of_compF noNum follows [] (f := 45) (fn := Go.Proofs.Tryd.f45) (body := Go.Proofs.Tryd.f45.body.getD .skip) (args := [.pointer yfast_1, entry_2]) rfl rfl (Nat.le_of_ble_eq_true rfl) ((congrFun (F45_eq _ yfast_1 entry_2) w).mpr h)
theorem F45_call {yfast_1 : Option Addr} {entry_2 : Value} {w : World} {g : Fn W (RTy.leaves (.s (.one .any)))} (h : F45 (fun v => Back (.s (.one .any)) g (.returned v)) yfast_1 entry_2 w) : CallT Go.Proofs.Tryd.prog 45 [.pointer yfast_1, entry_2] (.s (.one .any)) g w := F45_calls h

/-! ## yfast.YFastTrie).Insert -/
def F35_L1 (k : Value → W) (again9 : Option Addr → Option Addr → Nat → Nat → Option Addr → Nat → Nat → Int → Int → W) (yfast_4 : Option Addr) (overwritten_5p : Option Addr) (overwritten_5l : Nat) (overwritten_5c : Nat) (s6p : Option Addr) (s6l : Nat) (s6c : Nat) (x7 : Int) (x8 : Int) : W :=
 BIf (decide (x8 < x7)) (
  NN s6p fun a10 =>
  Req (0 ≤ x8 ∧ x8 < ((s6l : Nat) : Int)) <|
  LoadT .any (a10.add x8.toNat) fun v11 =>
  CallT Go.Proofs.Tryd.prog 45 [.pointer yfast_4, v11] (.s (.one .any)) fun v12 =>
  RawT Go.Proofs.Tryd.prog (Instr.buildSlice 73 1 [(0, v12)].toArray) (.s (.one .slice)) fun s13p s13l s13c =>
  NextT Go.Proofs.Tryd.prog (builtin .append #[73, 73] 73 [false, false].toArray [.slice overwritten_5p overwritten_5l overwritten_5c, .slice s13p s13l s13c].toArray) (.s (.one .slice)) fun s14p s14l s14c =>
  again9 yfast_4 s14p s14l s14c s6p s6l s6c x7 (addI .i64 x8 1)) (
  k (.slice overwritten_5p overwritten_5l overwritten_5c))
theorem F35_L1_rule {k : Value → W} (I : Option Addr → Option Addr → Nat → Nat → Option Addr → Nat → Nat → Int → Int → W) (μ : Option Addr → Option Addr → Nat → Nat → Option Addr → Nat → Nat → Int → Int → World → Nat)
  (hr : ∀ (yfast_4 : Option Addr) (overwritten_5p : Option Addr) (overwritten_5l : Nat) (overwritten_5c : Nat) (s6p : Option Addr) (s6l : Nat) (s6c : Nat) (x7 : Int) (x8 : Int) (w : World), I yfast_4 overwritten_5p overwritten_5l overwritten_5c s6p s6l s6c x7 x8 w → F35_L1 k (fun yfast_4' overwritten_5p' overwritten_5l' overwritten_5c' s6p' s6l' s6c' x7' x8' w' => I yfast_4' overwritten_5p' overwritten_5l' overwritten_5c' s6p' s6l' s6c' x7' x8' w' ∧ μ yfast_4' overwritten_5p' overwritten_5l' overwritten_5c' s6p' s6l' s6c' x7' x8' w' < μ yfast_4 overwritten_5p overwritten_5l overwritten_5c s6p s6l s6c x7 x8 w) yfast_4 overwritten_5p overwritten_5l overwritten_5c s6p s6l s6c x7 x8 w)
  {w : World} {yfast_4 : Option Addr} {overwritten_5p : Option Addr} {overwritten_5l : Nat} {overwritten_5c : Nat} {s6p : Option Addr} {s6l : Nat} {s6c : Nat} {x7 : Int} {x8 : Int} (h : I yfast_4 overwritten_5p overwritten_5l overwritten_5c s6p s6l s6c x7 x8 w) : Loop [.ptr, .slice, .slice, (.int .i64), (.int .i64)] (F35_L1 k) yfast_4 overwritten_5p overwritten_5l overwritten_5c s6p s6l s6c x7 x8 w :=
  Loop_intro (ts := [.ptr, .slice, .slice, (.int .i64), (.int .i64)]) (s := (yfast_4, (overwritten_5p, overwritten_5l, overwritten_5c), (s6p, s6l, s6c), x7, x8, ())) (fun s w => I s.1 s.2.1.1 s.2.1.2.1 s.2.1.2.2 s.2.2.1.1 s.2.2.1.2.1 s.2.2.1.2.2 s.2.2.2.1 s.2.2.2.2.1 w) (fun s w => μ s.1 s.2.1.1 s.2.1.2.1 s.2.1.2.2 s.2.2.1.1 s.2.2.1.2.1 s.2.2.1.2.2 s.2.2.2.1 s.2.2.2.2.1 w) h (fun s w h => hr s.1 s.2.1.1 s.2.1.2.1 s.2.1.2.2 s.2.2.1.1 s.2.2.1.2.1 s.2.2.1.2.2 s.2.2.2.1 s.2.2.2.2.1 w h)
def F35 (k : Value → W) (yfast_1 : Option Addr) (entries_2p : Option Addr) (entries_2l : Nat) (entries_2c : Nat) : W :=
 RawT Go.Proofs.Tryd.prog (Instr.makeSlice 73 (.int .i64 0) (.int .i64 ((entries_2l : Nat) : Int))) (.s (.one .slice)) fun s3p s3l s3c =>
 Loop [.ptr, .slice, .slice, (.int .i64), (.int .i64)] (F35_L1 k) yfast_1 s3p s3l s3c entries_2p entries_2l entries_2c ((entries_2l : Nat) : Int) 0
theorem F35_eq (k : Value → W) (yfast_1 : Option Addr) (entries_2p : Option Addr) (entries_2l : Nat) (entries_2c : Nat) : compF Go.Proofs.Tryd.prog Go.Proofs.Tryd.f35 [(3, [(0, .ptr), (5, .slice), (11, .slice), (12, (.int .i64)), (13, (.int .i64))])] (Go.Proofs.Tryd.f35.body.getD .skip) [.pointer yfast_1, .slice entries_2p entries_2l entries_2c] k = F35 k yfast_1 entries_2p entries_2l entries_2c := by kernel_rfl
theorem F35_calls {yfast_1 : Option Addr} {entries_2p : Option Addr} {entries_2l : Nat} {entries_2c : Nat} {w : World} {R : Ending → World → Prop} (h : F35 (fun v w => R (.returned v) w) yfast_1 entries_2p entries_2l entries_2c w) : Calls Go.Proofs.Tryd.prog 35 #[.pointer yfast_1, .slice entries_2p entries_2l entries_2c] w R :=
  calls_of_compF noNum follows [(3, [(0, .ptr), (5, .slice), (11, .slice), (12, (.int .i64)), (13, (.int .i64))])] (f := 35) (fn := Go.Proofs.Tryd.f35) (body := Go.Proofs.Tryd.f35.body.getD .skip) (args := [.pointer yfast_1, .slice entries_2p entries_2l entries_2c]) rfl rfl (Nat.le_of_ble_eq_true rfl) ((congrFun (F35_eq _ yfast_1 entries_2p entries_2l entries_2c) w).mpr h)
theorem F35_call {yfast_1 : Option Addr} {entries_2p : Option Addr} {entries_2l : Nat} {entries_2c : Nat} {w : World} {g : Fn W (RTy.leaves (.s (.one .slice)))} (h : F35 (fun v => Back (.s (.one .slice)) g (.returned v)) yfast_1 entries_2p entries_2l entries_2c w) : CallT Go.Proofs.Tryd.prog 35 [.pointer yfast_1, .slice entries_2p entries_2l entries_2c] (.s (.one .slice)) g w := F35_calls h

/-! ## yfast.Entries).get -/
def F61 (k : Value → W) (entries_1p : Option Addr) (entries_1l : Nat) (entries_1c : Nat) (key_2 : Int) : W :=
 CallT Go.Proofs.Tryd.prog 63 [.slice entries_1p entries_1l entries_1c, .int .u64 key_2] (.s (.one (.int .i64))) fun x3 =>
 BIf (x3 == ((entries_1l : Nat) : Int)) (
  k .nilIface) (
  NN entries_1p fun a4 =>
  Req (0 ≤ x3 ∧ x3 < ((entries_1l : Nat) : Int)) <|
  LoadT .any (a4.add x3.toNat) fun v5 =>
  NextT Go.Proofs.Tryd.prog (callMethod v5 "Key" [].toArray) (.s (.one (.int .u64))) fun x6 =>
  BIf (x6 == key_2) (
   NN entries_1p fun a7 =>
   Req (0 ≤ x3 ∧ x3 < ((entries_1l : Nat) : Int)) <|
   LoadT .any (a7.add x3.toNat) fun v8 =>
   k v8) (
   k .nilIface))
theorem F61_eq (k : Value → W) (entries_1p : Option Addr) (entries_1l : Nat) (entries_1c : Nat) (key_2 : Int) : compF Go.Proofs.Tryd.prog Go.Proofs.Tryd.f61 [] (Go.Proofs.Tryd.f61.body.getD .skip) [.slice entries_1p entries_1l entries_1c, .int .u64 key_2] k = F61 k entries_1p entries_1l entries_1c key_2 := by kernel_rfl
theorem F61_calls {entries_1p : Option Addr} {entries_1l : Nat} {entries_1c : Nat} {key_2 : Int} {w : World} {R : Ending → World → Prop} (h : F61 (fun v w => R (.returned v) w) entries_1p entries_1l entries_1c key_2 w) : Calls Go.Proofs.Tryd.prog 61 #[.slice entries_1p entries_1l entries_1c, .int .u64 key_2] w R :=
  calls_of_compF noNum follows [] (f := 61) (fn := Go.Proofs.Tryd.f61) (body := Go.Proofs.Tryd.f61.body.getD .skip) (args := [.slice entries_1p entries_1l entries_1c, .int .u64 key_2]) rfl rfl (Nat.le_of_ble_eq_true rfl) ((congrFun (F61_eq _ entries_1p entries_1l entries_1c key_2) w).mpr h)
theorem F61_call {entries_1p : Option Addr} {entries_1l : Nat} {entries_1c : Nat} {key_2 : Int} {w : World} {g : Fn W (RTy.leaves (.s (.one .any)))} (h : F61 (fun v => Back (.s (.one .any)) g (.returned v)) entries_1p entries_1l entries_1c key_2 w) : CallT Go.Proofs.Tryd.prog 61 [.slice entries_1p entries_1l entries_1c, .int .u64 key_2] (.s (.one .any)) g w := F61_calls h

/-! ## yfast.YFastTrie).get -/
def F47 (k : Value → W) (yfast_1 : Option Addr) (key_2 : Int) : W :=
 CallT Go.Proofs.Tryd.prog 58 [.pointer yfast_1, .int .u64 key_2] (.s (.one (.int .u64))) fun x3 =>
 NN yfast_1 fun a4 =>
 LoadT .ptr (a4.add 1) fun p5 =>
 CallT Go.Proofs.Tryd.prog 27 [.pointer p5, .int .u64 x3] (.s (.one .any)) fun v6 =>
 IfaceNil v6 fun b7 =>
 BIf b7 (
  k .nilIface) (
  TAs v6 108 (.s (.one .ptr)) fun p8 =>
  NN p8 fun a9 =>
  LoadT .slice (a9.add 1) fun s10p s10l s10c =>
  CallT Go.Proofs.Tryd.prog 61 [.slice s10p s10l s10c, .int .u64 key_2] (.s (.one .any)) fun v11 =>
  IfaceNil v11 fun b12 =>
  BIf b12 (
   k .nilIface) (
   k v11))
theorem F47_eq (k : Value → W) (yfast_1 : Option Addr) (key_2 : Int) : compF Go.Proofs.Tryd.prog Go.Proofs.Tryd.f47 [] (Go.Proofs.Tryd.f47.body.getD .skip) [.pointer yfast_1, .int .u64 key_2] k = F47 k yfast_1 key_2 := by kernel_rfl
theorem F47_calls {yfast_1 : Option Addr} {key_2 : Int} {w : World} {R : Ending → World → Prop} (h : F47 (fun v w => R (.returned v) w) yfast_1 key_2 w) : Calls Go.Proofs.Tryd.prog 47 #[.pointer yfast_1, .int .u64 key_2] w R :=
  calls_of_compF noNum follows [] (f := 47) (fn := Go.Proofs.Tryd.f47) (body := Go.Proofs.Tryd.f47.body.getD .skip) (args := [.pointer yfast_1, .int .u64 key_2]) rfl rfl (Nat.le_of_ble_eq_true rfl) ((congrFun (F47_eq _ yfast_1 key_2) w).mpr h)
theorem F47_call {yfast_1 : Option Addr} {key_2 : Int} {w : World} {g : Fn W (RTy.leaves (.s (.one .any)))} (h : F47 (fun v => Back (.s (.one .any)) g (.returned v)) yfast_1 key_2 w) : CallT Go.Proofs.Tryd.prog 47 [.pointer yfast_1, .int .u64 key_2] (.s (.one .any)) g w := F47_calls h

/-! ## yfast.YFastTrie).Get -/
def F37 (k : Value → W) (yfast_1 : Option Addr) (key_2 : Int) : W :=
 CallT Go.Proofs.Tryd.prog 47 [.pointer yfast_1, .int .u64 key_2] (.s (.one .any)) fun v3 =>
 IfaceNil v3 fun b4 =>
 BIf b4 (
  k .nilIface) (
  k v3)
theorem F37_eq (k : Value → W) (yfast_1 : Option Addr) (key_2 : Int) : compF Go.Proofs.Tryd.prog Go.Proofs.Tryd.f37 [] (Go.Proofs.Tryd.f37.body.getD .skip) [.pointer yfast_1, .int .u64 key_2] k = F37 k yfast_1 key_2 := by kernel_rfl
theorem F37_calls {yfast_1 : Option Addr} {key_2 : Int} {w : World} {R : Ending → World → Prop} (h : F37 (fun v w => R (.returned v) w) yfast_1 key_2 w) : Calls Go.Proofs.Tryd.prog 37 #[.pointer yfast_1, .int .u64 key_2] w R :=
  calls_of_compF noNum follows [] (f := 37) (fn := Go.Proofs.Tryd.f37) (body := Go.Proofs.Tryd.f37.body.getD .skip) (args := [.pointer yfast_1, .int .u64 key_2]) rfl rfl (Nat.le_of_ble_eq_true rfl) ((congrFun (F37_eq _ yfast_1 key_2) w).mpr h)
theorem F37_call {yfast_1 : Option Addr} {key_2 : Int} {w : World} {g : Fn W (RTy.leaves (.s (.one .any)))} (h : F37 (fun v => Back (.s (.one .any)) g (.returned v)) yfast_1 key_2 w) : CallT Go.Proofs.Tryd.prog 37 [.pointer yfast_1, .int .u64 key_2] (.s (.one .any)) g w := F37_calls h

/-! ## yfast.YFastTrie).Len -/
def F38 (k : Value → W) (yfast_1 : Option Addr) : W :=
 NN yfast_1 fun a2 =>
 LoadT (.int .u64) a2 fun x3 =>
 k (.int .u64 x3)
theorem F38_eq (k : Value → W) (yfast_1 : Option Addr) : compF Go.Proofs.Tryd.prog Go.Proofs.Tryd.f38 [] (Go.Proofs.Tryd.f38.body.getD .skip) [.pointer yfast_1] k = F38 k yfast_1 := by kernel_rfl
theorem F38_calls {yfast_1 : Option Addr} {w : World} {R : Ending → World → Prop} (h : F38 (fun v w => R (.returned v) w) yfast_1 w) : Calls Go.Proofs.Tryd.prog 38 #[.pointer yfast_1] w R :=
  calls_of_compF noNum follows [] (f := 38) (fn := Go.Proofs.Tryd.f38) (body := Go.Proofs.Tryd.f38.body.getD .skip) (args := [.pointer yfast_1]) rfl rfl (Nat.le_of_ble_eq_true rfl) ((congrFun (F38_eq _ yfast_1) w).mpr h)
theorem F38_call {yfast_1 : Option Addr} {w : World} {g : Fn W (RTy.leaves (.s (.one (.int .u64))))} (h : F38 (fun v => Back (.s (.one (.int .u64))) g (.returned v)) yfast_1 w) : CallT Go.Proofs.Tryd.prog 38 [.pointer yfast_1] (.s (.one (.int .u64))) g w := F38_calls h

/-! ## impl.YFRun -/
def F15_J1 (k : Value → W) (again10 : Option Addr → Option Addr → Nat → Nat → Option Addr → Nat → Nat → Int → Int → W) (t_42 : Option Addr) (out_43p : Option Addr) (out_43l : Nat) (out_43c : Nat) (said_44 : Addr) (s45p : Option Addr) (s45l : Nat) (s45c : Nat) (x46 : Int) (x47 : Int) : W :=
 LoadT .slice (said_44.add 0) fun s48p s48l s48c =>
 LoadT (.int .u64) (said_44.add 1) fun x49 =>
 LoadT .bool (said_44.add 2) fun b50 =>
 RawT Go.Proofs.Tryd.prog (Instr.buildSlice 29 1 [(0, .agg #[.slice s48p s48l s48c, .int .u64 x49, .bool b50])].toArray) (.s (.one .slice)) fun s51p s51l s51c =>
 NextT Go.Proofs.Tryd.prog (builtin .append #[29, 29] 29 [false, false].toArray [.slice out_43p out_43l out_43c, .slice s51p s51l s51c].toArray) (.s (.one .slice)) fun s52p s52l s52c =>
 again10 t_42 s52p s52l s52c s45p s45l s45c x46 (addI .i64 x47 1)
def F15_L2 (k : Value → W) (again10 : Option Addr → Option Addr → Nat → Nat → Option Addr → Nat → Nat → Int → Int → W) (again29 : Option Addr → Option Addr → Nat → Nat → Addr → Option Addr → Nat → Nat → Option Addr → Nat → Nat → Int → Int → Option Addr → Nat → Nat → Int → Int → W) (t_19 : Option Addr) (out_20p : Option Addr) (out_20l : Nat) (out_20c : Nat) (said_21 : Addr) (l_22p : Option Addr) (l_22l : Nat) (l_22c : Nat) (s23p : Option Addr) (s23l : Nat) (s23c : Nat) (x24 : Int) (x25 : Int) (s26p : Option Addr) (s26l : Nat) (s26c : Nat) (x27 : Int) (x28 : Int) : W :=
 BIf (decide (x28 < x27)) (
  NN s26p fun a30 =>
  Req (0 ≤ x28 ∧ x28 < ((s26l : Nat) : Int)) <|
  LoadT (.int .u64) ((a30.add (x28.toNat * 2)).add 0) fun x31 =>
  LoadT (.int .i64) ((a30.add (x28.toNat * 2)).add 1) fun x32 =>
  New [.int .u64 0, .int .i64 0] 35 fun n33 =>
  Store1 ⟨n33, 0, none⟩ (.int .u64 x31) <|
  Store1 ⟨n33, 1, none⟩ (.int .i64 x32) <|
  LoadT (.int .u64) ⟨n33, 0, none⟩ fun x34 =>
  LoadT (.int .i64) ⟨n33, 1, none⟩ fun x35 =>
  RawT Go.Proofs.Tryd.prog (Instr.buildSlice 71 1 [(0, .iface 57 (.agg #[.int .u64 x34, .int .i64 x35]))].toArray) (.s (.one .slice)) fun s36p s36l s36c =>
  NextT Go.Proofs.Tryd.prog (builtin .append #[71, 71] 71 [false, false].toArray [.slice l_22p l_22l l_22c, .slice s36p s36l s36c].toArray) (.s (.one .slice)) fun s37p s37l s37c =>
  again29 t_19 out_20p out_20l out_20c said_21 s37p s37l s37c s23p s23l s23c x24 x25 s26p s26l s26c x27 (addI .i64 x28 1)) (
  CallT Go.Proofs.Tryd.prog 35 [.pointer t_19, .slice l_22p l_22l l_22c] (.s (.one .slice)) fun s38p s38l s38c =>
  CallT Go.Proofs.Tryd.prog 34 [.slice s38p s38l s38c] (.s (.agg [.slice, (.int .u64), .bool])) fun s39p s39l s39c x40 b41 =>
  Store1 (said_21.add 0) (.slice s39p s39l s39c) <|
  Store1 (said_21.add 1) (.int .u64 x40) <|
  Store1 (said_21.add 2) (.bool b41) <|
  F15_J1 k again10 t_19 out_20p out_20l out_20c said_21 s23p s23l s23c x24 x25)
theorem F15_L2_rule {k : Value → W} {again10 : Option Addr → Option Addr → Nat → Nat → Option Addr → Nat → Nat → Int → Int → W} (I : Option Addr → Option Addr → Nat → Nat → Addr → Option Addr → Nat → Nat → Option Addr → Nat → Nat → Int → Int → Option Addr → Nat → Nat → Int → Int → W) (μ : Option Addr → Option Addr → Nat → Nat → Addr → Option Addr → Nat → Nat → Option Addr → Nat → Nat → Int → Int → Option Addr → Nat → Nat → Int → Int → World → Nat)
  (hr : ∀ (t_19 : Option Addr) (out_20p : Option Addr) (out_20l : Nat) (out_20c : Nat) (said_21 : Addr) (l_22p : Option Addr) (l_22l : Nat) (l_22c : Nat) (s23p : Option Addr) (s23l : Nat) (s23c : Nat) (x24 : Int) (x25 : Int) (s26p : Option Addr) (s26l : Nat) (s26c : Nat) (x27 : Int) (x28 : Int) (w : World), I t_19 out_20p out_20l out_20c said_21 l_22p l_22l l_22c s23p s23l s23c x24 x25 s26p s26l s26c x27 x28 w → F15_L2 k again10 (fun t_19' out_20p' out_20l' out_20c' said_21' l_22p' l_22l' l_22c' s23p' s23l' s23c' x24' x25' s26p' s26l' s26c' x27' x28' w' => I t_19' out_20p' out_20l' out_20c' said_21' l_22p' l_22l' l_22c' s23p' s23l' s23c' x24' x25' s26p' s26l' s26c' x27' x28' w' ∧ μ t_19' out_20p' out_20l' out_20c' said_21' l_22p' l_22l' l_22c' s23p' s23l' s23c' x24' x25' s26p' s26l' s26c' x27' x28' w' < μ t_19 out_20p out_20l out_20c said_21 l_22p l_22l l_22c s23p s23l s23c x24 x25 s26p s26l s26c x27 x28 w) t_19 out_20p out_20l out_20c said_21 l_22p l_22l l_22c s23p s23l s23c x24 x25 s26p s26l s26c x27 x28 w)
  {w : World} {t_19 : Option Addr} {out_20p : Option Addr} {out_20l : Nat} {out_20c : Nat} {said_21 : Addr} {l_22p : Option Addr} {l_22l : Nat} {l_22c : Nat} {s23p : Option Addr} {s23l : Nat} {s23c : Nat} {x24 : Int} {x25 : Int} {s26p : Option Addr} {s26l : Nat} {s26c : Nat} {x27 : Int} {x28 : Int} (h : I t_19 out_20p out_20l out_20c said_21 l_22p l_22l l_22c s23p s23l s23c x24 x25 s26p s26l s26c x27 x28 w) : Loop [.ptr, .slice, .addr, .slice, .slice, (.int .i64), (.int .i64), .slice, (.int .i64), (.int .i64)] (F15_L2 k again10) t_19 out_20p out_20l out_20c said_21 l_22p l_22l l_22c s23p s23l s23c x24 x25 s26p s26l s26c x27 x28 w :=
  Loop_intro (ts := [.ptr, .slice, .addr, .slice, .slice, (.int .i64), (.int .i64), .slice, (.int .i64), (.int .i64)]) (s := (t_19, (out_20p, out_20l, out_20c), said_21, (l_22p, l_22l, l_22c), (s23p, s23l, s23c), x24, x25, (s26p, s26l, s26c), x27, x28, ())) (fun s w => I s.1 s.2.1.1 s.2.1.2.1 s.2.1.2.2 s.2.2.1 s.2.2.2.1.1 s.2.2.2.1.2.1 s.2.2.2.1.2.2 s.2.2.2.2.1.1 s.2.2.2.2.1.2.1 s.2.2.2.2.1.2.2 s.2.2.2.2.2.1 s.2.2.2.2.2.2.1 s.2.2.2.2.2.2.2.1.1 s.2.2.2.2.2.2.2.1.2.1 s.2.2.2.2.2.2.2.1.2.2 s.2.2.2.2.2.2.2.2.1 s.2.2.2.2.2.2.2.2.2.1 w) (fun s w => μ s.1 s.2.1.1 s.2.1.2.1 s.2.1.2.2 s.2.2.1 s.2.2.2.1.1 s.2.2.2.1.2.1 s.2.2.2.1.2.2 s.2.2.2.2.1.1 s.2.2.2.2.1.2.1 s.2.2.2.2.1.2.2 s.2.2.2.2.2.1 s.2.2.2.2.2.2.1 s.2.2.2.2.2.2.2.1.1 s.2.2.2.2.2.2.2.1.2.1 s.2.2.2.2.2.2.2.1.2.2 s.2.2.2.2.2.2.2.2.1 s.2.2.2.2.2.2.2.2.2.1 w) h (fun s w h => hr s.1 s.2.1.1 s.2.1.2.1 s.2.1.2.2 s.2.2.1 s.2.2.2.1.1 s.2.2.2.1.2.1 s.2.2.2.1.2.2 s.2.2.2.2.1.1 s.2.2.2.2.1.2.1 s.2.2.2.2.1.2.2 s.2.2.2.2.2.1 s.2.2.2.2.2.2.1 s.2.2.2.2.2.2.2.1.1 s.2.2.2.2.2.2.2.1.2.1 s.2.2.2.2.2.2.2.1.2.2 s.2.2.2.2.2.2.2.2.1 s.2.2.2.2.2.2.2.2.2.1 w h)
def F15_L1 (k : Value → W) (again10 : Option Addr → Option Addr → Nat → Nat → Option Addr → Nat → Nat → Int → Int → W) (t_5 : Option Addr) (out_6p : Option Addr) (out_6l : Nat) (out_6c : Nat) (s7p : Option Addr) (s7l : Nat) (s7c : Nat) (x8 : Int) (x9 : Int) : W :=
 BIf (decide (x9 < x8)) (
  NN s7p fun a11 =>
  Req (0 ≤ x9 ∧ x9 < ((s7l : Nat) : Int)) <|
  LoadT (.int .i64) ((a11.add (x9.toNat * 3)).add 0) fun x12 =>
  LoadT .slice ((a11.add (x9.toNat * 3)).add 1) fun s13p s13l s13c =>
  LoadT .slice ((a11.add (x9.toNat * 3)).add 2) fun s14p s14l s14c =>
  New [.int .i64 0, .slice none 0 0, .slice none 0 0] 33 fun n15 =>
  Store1 ⟨n15, 0, none⟩ (.int .i64 x12) <|
  Store1 ⟨n15, 1, none⟩ (.slice s13p s13l s13c) <|
  Store1 ⟨n15, 2, none⟩ (.slice s14p s14l s14c) <|
  New [.slice none 0 0, .int .u64 0, .bool false] 39 fun n16 =>
  LoadT (.int .i64) ⟨n15, 0, none⟩ fun x17 =>
  BIf (x17 == 1) (
   LoadT .slice ⟨n15, 1, none⟩ fun s18p s18l s18c =>
   Loop [.ptr, .slice, .addr, .slice, .slice, (.int .i64), (.int .i64), .slice, (.int .i64), (.int .i64)] (F15_L2 k again10) t_5 out_6p out_6l out_6c ⟨n16, 0, none⟩ none 0 0 s7p s7l s7c x8 x9 s18p s18l s18c ((s18l : Nat) : Int) 0) (
   BIf (x17 == 2) (
    LoadT .slice ⟨n15, 2, none⟩ fun s53p s53l s53c =>
    CallT Go.Proofs.Tryd.prog 36 [.pointer t_5, .slice s53p s53l s53c] (.s (.one .slice)) fun s54p s54l s54c =>
    CallT Go.Proofs.Tryd.prog 34 [.slice s54p s54l s54c] (.s (.agg [.slice, (.int .u64), .bool])) fun s55p s55l s55c x56 b57 =>
    Store1 ⟨n16, 0, none⟩ (.slice s55p s55l s55c) <|
    Store1 ⟨n16, 1, none⟩ (.int .u64 x56) <|
    Store1 ⟨n16, 2, none⟩ (.bool b57) <|
    F15_J1 k again10 t_5 out_6p out_6l out_6c ⟨n16, 0, none⟩ s7p s7l s7c x8 x9) (
    BIf (x17 == 3) (
     LoadT .slice ⟨n15, 2, none⟩ fun s58p s58l s58c =>
     CallT Go.Proofs.Tryd.prog 28 [.slice s58p s58l s58c] (.s (.one (.int .u64))) fun x59 =>
     CallT Go.Proofs.Tryd.prog 37 [.pointer t_5, .int .u64 x59] (.s (.one .any)) fun v60 =>
     CallT Go.Proofs.Tryd.prog 26 [v60] (.s (.agg [.slice, (.int .u64), .bool])) fun s61p s61l s61c x62 b63 =>
     Store1 ⟨n16, 0, none⟩ (.slice s61p s61l s61c) <|
     Store1 ⟨n16, 1, none⟩ (.int .u64 x62) <|
     Store1 ⟨n16, 2, none⟩ (.bool b63) <|
     F15_J1 k again10 t_5 out_6p out_6l out_6c ⟨n16, 0, none⟩ s7p s7l s7c x8 x9) (
     BIf (x17 == 5) (
      CallT Go.Proofs.Tryd.prog 38 [.pointer t_5] (.s (.one (.int .u64))) fun x64 =>
      Store1 ⟨n16, 1, none⟩ (.int .u64 x64) <|
      F15_J1 k again10 t_5 out_6p out_6l out_6c ⟨n16, 0, none⟩ s7p s7l s7c x8 x9) (
      F15_J1 k again10 t_5 out_6p out_6l out_6c ⟨n16, 0, none⟩ s7p s7l s7c x8 x9))))) (
  k (.slice out_6p out_6l out_6c))
theorem F15_L1_rule {k : Value → W} (I : Option Addr → Option Addr → Nat → Nat → Option Addr → Nat → Nat → Int → Int → W) (μ : Option Addr → Option Addr → Nat → Nat → Option Addr → Nat → Nat → Int → Int → World → Nat)
  (hr : ∀ (t_5 : Option Addr) (out_6p : Option Addr) (out_6l : Nat) (out_6c : Nat) (s7p : Option Addr) (s7l : Nat) (s7c : Nat) (x8 : Int) (x9 : Int) (w : World), I t_5 out_6p out_6l out_6c s7p s7l s7c x8 x9 w → F15_L1 k (fun t_5' out_6p' out_6l' out_6c' s7p' s7l' s7c' x8' x9' w' => I t_5' out_6p' out_6l' out_6c' s7p' s7l' s7c' x8' x9' w' ∧ μ t_5' out_6p' out_6l' out_6c' s7p' s7l' s7c' x8' x9' w' < μ t_5 out_6p out_6l out_6c s7p s7l s7c x8 x9 w) t_5 out_6p out_6l out_6c s7p s7l s7c x8 x9 w)
  {w : World} {t_5 : Option Addr} {out_6p : Option Addr} {out_6l : Nat} {out_6c : Nat} {s7p : Option Addr} {s7l : Nat} {s7c : Nat} {x8 : Int} {x9 : Int} (h : I t_5 out_6p out_6l out_6c s7p s7l s7c x8 x9 w) : Loop [.ptr, .slice, .slice, (.int .i64), (.int .i64)] (F15_L1 k) t_5 out_6p out_6l out_6c s7p s7l s7c x8 x9 w :=
  Loop_intro (ts := [.ptr, .slice, .slice, (.int .i64), (.int .i64)]) (s := (t_5, (out_6p, out_6l, out_6c), (s7p, s7l, s7c), x8, x9, ())) (fun s w => I s.1 s.2.1.1 s.2.1.2.1 s.2.1.2.2 s.2.2.1.1 s.2.2.1.2.1 s.2.2.1.2.2 s.2.2.2.1 s.2.2.2.2.1 w) (fun s w => μ s.1 s.2.1.1 s.2.1.2.1 s.2.1.2.2 s.2.2.1.1 s.2.2.1.2.1 s.2.2.1.2.2 s.2.2.2.1 s.2.2.2.2.1 w) h (fun s w h => hr s.1 s.2.1.1 s.2.1.2.1 s.2.1.2.2 s.2.2.1.1 s.2.2.1.2.1 s.2.2.1.2.2 s.2.2.2.1 s.2.2.2.2.1 w h)
def F15 (k : Value → W) (bits_1 : Int) (steps_2p : Option Addr) (steps_2l : Nat) (steps_2c : Nat) : W :=
 CallT Go.Proofs.Tryd.prog 23 [.int .i64 bits_1] (.s (.one .any)) fun v3 =>
 CallT Go.Proofs.Tryd.prog 33 [v3] (.s (.one .ptr)) fun p4 =>
 Loop [.ptr, .slice, .slice, (.int .i64), (.int .i64)] (F15_L1 k) p4 none 0 0 steps_2p steps_2l steps_2c ((steps_2l : Nat) : Int) 0
theorem F15_eq (k : Value → W) (bits_1 : Int) (steps_2p : Option Addr) (steps_2l : Nat) (steps_2c : Nat) : compF Go.Proofs.Tryd.prog Go.Proofs.Tryd.f15 [(4, [(5, .ptr), (6, .slice), (16, .slice), (17, (.int .i64)), (18, (.int .i64))]), (11, [(5, .ptr), (6, .slice), (9, .addr), (10, .slice), (16, .slice), (17, (.int .i64)), (18, (.int .i64)), (27, .slice), (28, (.int .i64)), (29, (.int .i64))])] (Go.Proofs.Tryd.f15.body.getD .skip) [.int .i64 bits_1, .slice steps_2p steps_2l steps_2c] k = F15 k bits_1 steps_2p steps_2l steps_2c := by kernel_rfl
theorem F15_calls {bits_1 : Int} {steps_2p : Option Addr} {steps_2l : Nat} {steps_2c : Nat} {w : World} {R : Ending → World → Prop} (h : F15 (fun v w => R (.returned v) w) bits_1 steps_2p steps_2l steps_2c w) : Calls Go.Proofs.Tryd.prog 15 #[.int .i64 bits_1, .slice steps_2p steps_2l steps_2c] w R :=
  calls_of_compF noNum follows [(4, [(5, .ptr), (6, .slice), (16, .slice), (17, (.int .i64)), (18, (.int .i64))]), (11, [(5, .ptr), (6, .slice), (9, .addr), (10, .slice), (16, .slice), (17, (.int .i64)), (18, (.int .i64)), (27, .slice), (28, (.int .i64)), (29, (.int .i64))])] (f := 15) (fn := Go.Proofs.Tryd.f15) (body := Go.Proofs.Tryd.f15.body.getD .skip) (args := [.int .i64 bits_1, .slice steps_2p steps_2l steps_2c]) rfl rfl (Nat.le_of_ble_eq_true rfl) ((congrFun (F15_eq _ bits_1 steps_2p steps_2l steps_2c) w).mpr h)
theorem F15_call {bits_1 : Int} {steps_2p : Option Addr} {steps_2l : Nat} {steps_2c : Nat} {w : World} {g : Fn W (RTy.leaves (.s (.one .slice)))} (h : F15 (fun v => Back (.s (.one .slice)) g (.returned v)) bits_1 steps_2p steps_2l steps_2c w) : CallT Go.Proofs.Tryd.prog 15 [.int .i64 bits_1, .slice steps_2p steps_2l steps_2c] (.s (.one .slice)) g w := F15_calls h

end Go.Proofs.YtaacaokocamlcaaDoor.E
