/-
  Printed by this session's own program eng.py out of Lean's print of the loaded functions: what each function's body asks, in the engine's words; each is checked against the program by the kernel.
-/
import Derived.Test.YthapmkjmfkmnoaaEng
import Derived.Test.YthapmkjmfkmnoaaFnsA
namespace Go.Proofs.Ythapmkjmfkmnoaa.E
open Go
set_option linter.unusedVariables false
set_option maxRecDepth 100000
/-! ## impl.spans -/
def F16_L1 (k : Value → W) (again6 : Option Addr → Nat → Nat → Option Addr → Nat → Nat → Int → Int → W) (out_2p : Option Addr) (out_2l : Nat) (out_2c : Nat) (s3p : Option Addr) (s3l : Nat) (s3c : Nat) (x4 : Int) (x5 : Int) : W :=
 BIf (decide (x5 < x4)) (
  NN s3p fun a7 =>
  Req (0 ≤ x5 ∧ x5 < ((s3l : Nat) : Int)) <|
  LoadT .slice ((a7.add (x5.toNat * 3)).add 0) fun s8p s8l s8c =>
  LoadT .slice ((a7.add (x5.toNat * 3)).add 1) fun s9p s9l s9c =>
  LoadT (.int .u64) ((a7.add (x5.toNat * 3)).add 2) fun x10 =>
  New [.slice none 0 0, .slice none 0 0, .int .u64 0] 30 fun n11 =>
  Store1 ⟨n11, 0, none⟩ (.slice s8p s8l s8c) <|
  Store1 ⟨n11, 1, none⟩ (.slice s9p s9l s9c) <|
  Store1 ⟨n11, 2, none⟩ (.int .u64 x10) <|
  LoadT .slice ⟨n11, 0, none⟩ fun s12p s12l s12c =>
  LoadT .slice ⟨n11, 1, none⟩ fun s13p s13l s13c =>
  LoadT (.int .u64) ⟨n11, 2, none⟩ fun x14 =>
  RawT Go.Proofs.Try.prog (Instr.buildSlice 62 1 [(0, .iface 59 (.agg #[.slice s12p s12l s12c, .slice s13p s13l s13c, .int .u64 x14]))].toArray) (.s (.one .slice)) fun s15p s15l s15c =>
  NextT Go.Proofs.Try.prog (builtin .append #[62, 62] 62 [false, false].toArray [.slice out_2p out_2l out_2c, .slice s15p s15l s15c].toArray) (.s (.one .slice)) fun s16p s16l s16c =>
  again6 s16p s16l s16c s3p s3l s3c x4 (addI .i64 x5 1)) (
  k (.slice out_2p out_2l out_2c))
theorem F16_L1_rule {k : Value → W} (I : Option Addr → Nat → Nat → Option Addr → Nat → Nat → Int → Int → W) (μ : Option Addr → Nat → Nat → Option Addr → Nat → Nat → Int → Int → World → Nat)
  (hr : ∀ (out_2p : Option Addr) (out_2l : Nat) (out_2c : Nat) (s3p : Option Addr) (s3l : Nat) (s3c : Nat) (x4 : Int) (x5 : Int) (w : World), I out_2p out_2l out_2c s3p s3l s3c x4 x5 w → F16_L1 k (fun out_2p' out_2l' out_2c' s3p' s3l' s3c' x4' x5' w' => I out_2p' out_2l' out_2c' s3p' s3l' s3c' x4' x5' w' ∧ μ out_2p' out_2l' out_2c' s3p' s3l' s3c' x4' x5' w' < μ out_2p out_2l out_2c s3p s3l s3c x4 x5 w) out_2p out_2l out_2c s3p s3l s3c x4 x5 w)
  {w : World} {out_2p : Option Addr} {out_2l : Nat} {out_2c : Nat} {s3p : Option Addr} {s3l : Nat} {s3c : Nat} {x4 : Int} {x5 : Int} (h : I out_2p out_2l out_2c s3p s3l s3c x4 x5 w) : Loop [.slice, .slice, (.int .i64), (.int .i64)] (F16_L1 k) out_2p out_2l out_2c s3p s3l s3c x4 x5 w :=
  Loop_intro (ts := [.slice, .slice, (.int .i64), (.int .i64)]) (s := ((out_2p, out_2l, out_2c), (s3p, s3l, s3c), x4, x5, ())) (fun s w => I s.1.1 s.1.2.1 s.1.2.2 s.2.1.1 s.2.1.2.1 s.2.1.2.2 s.2.2.1 s.2.2.2.1 w) (fun s w => μ s.1.1 s.1.2.1 s.1.2.2 s.2.1.1 s.2.1.2.1 s.2.1.2.2 s.2.2.1 s.2.2.2.1 w) h (fun s w h => hr s.1.1 s.1.2.1 s.1.2.2 s.2.1.1 s.2.1.2.1 s.2.1.2.2 s.2.2.1 s.2.2.2.1 w h)
def F16 (k : Value → W) (l_1p : Option Addr) (l_1l : Nat) (l_1c : Nat) : W :=
 Loop [.slice, .slice, (.int .i64), (.int .i64)] (F16_L1 k) none 0 0 l_1p l_1l l_1c ((l_1l : Nat) : Int) 0
theorem F16_eq (k : Value → W) (l_1p : Option Addr) (l_1l : Nat) (l_1c : Nat) : compF Go.Proofs.Try.prog Go.Proofs.Try.f16 [(3, [(3, .slice), (6, .slice), (7, (.int .i64)), (8, (.int .i64))])] (Go.Proofs.Try.f16.body.getD .skip) [.slice l_1p l_1l l_1c] k = F16 k l_1p l_1l l_1c := by kernel_rfl
theorem F16_calls {l_1p : Option Addr} {l_1l : Nat} {l_1c : Nat} {w : World} {R : Ending → World → Prop} (h : F16 (fun v w => R (.returned v) w) l_1p l_1l l_1c w) : Calls Go.Proofs.Try.prog 16 #[.slice l_1p l_1l l_1c] w R :=
  calls_of_compF noNum follows [(3, [(3, .slice), (6, .slice), (7, (.int .i64)), (8, (.int .i64))])] (f := 16) (fn := Go.Proofs.Try.f16) (body := Go.Proofs.Try.f16.body.getD .skip) (args := [.slice l_1p l_1l l_1c]) rfl rfl (Nat.le_of_ble_eq_true rfl) ((congrFun (F16_eq _ l_1p l_1l l_1c) w).mpr h)
theorem F16_call {l_1p : Option Addr} {l_1l : Nat} {l_1c : Nat} {w : World} {g : Fn W (RTy.leaves (.s (.one .slice)))} (h : F16 (fun v => Back (.s (.one .slice)) g (.returned v)) l_1p l_1l l_1c w) : CallT Go.Proofs.Try.prog 16 [.slice l_1p l_1l l_1c] (.s (.one .slice)) g w := F16_calls h

/-! ## impl.spanStep$1 -/
def F15 (k : Value → W) (x_1 : Value) (a2 : Addr) : W :=
 Drw <|
 LoadT .slice a2 fun s3p s3l s3c =>
 TAs x_1 59 (.s (.agg [.slice, .slice, (.int .u64)])) fun s4p s4l s4c s5p s5l s5c x6 =>
 RawT Go.Proofs.Try.prog (Instr.buildSlice 34 1 [(0, .agg #[.slice s4p s4l s4c, .slice s5p s5l s5c, .int .u64 x6])].toArray) (.s (.one .slice)) fun s7p s7l s7c =>
 Chk1 a2 (.slice s3p s3l s3c) <|
 NextT Go.Proofs.Try.prog (builtin .append #[34, 34] 34 [false, false].toArray [.slice s3p s3l s3c, .slice s7p s7l s7c].toArray) (.s (.one .slice)) fun s8p s8l s8c =>
 Store1 a2 (.slice s8p s8l s8c) <|
 k (.tuple #[])
theorem F15_eq (k : Value → W) (x_1 : Value) (a2 : Addr) : compF Go.Proofs.Try.prog Go.Proofs.Try.f15 [] (Go.Proofs.Try.f15.body.getD .skip) [x_1, .pointer (some a2)] k = F15 k x_1 a2 := by kernel_rfl
theorem F15_calls {x_1 : Value} {a2 : Addr} {w : World} {R : Ending → World → Prop} (h : F15 (fun v w => R (.returned v) w) x_1 a2 w) : Calls Go.Proofs.Try.prog 15 #[x_1, .pointer (some a2)] w R :=
  calls_of_compF noNum follows [] (f := 15) (fn := Go.Proofs.Try.f15) (body := Go.Proofs.Try.f15.body.getD .skip) (args := [x_1, .pointer (some a2)]) rfl rfl (Nat.le_of_ble_eq_true rfl) ((congrFun (F15_eq _ x_1 a2) w).mpr h)
theorem F15_call {x_1 : Value} {a2 : Addr} {w : World} {g : Fn W (RTy.leaves (.tup []))} (h : F15 (fun v => Back (.tup []) g (.returned v)) x_1 a2 w) : CallT Go.Proofs.Try.prog 15 [x_1, .pointer (some a2)] (.tup []) g w := F15_calls h

/-! ## impl.spanStep -/
def F13_L1 (k : Value → W) (again37 : Addr → Addr → Value → Option Addr → Nat → Nat → Int → Int → W) (a31 : Addr) (out_32 : Addr) (keep_33 : Value) (s34p : Option Addr) (s34l : Nat) (s34c : Nat) (x35 : Int) (x36 : Int) : W :=
 BIf (decide (x36 < x35)) (
  NN s34p fun a38 =>
  Req (0 ≤ x36 ∧ x36 < ((s34l : Nat) : Int)) <|
  LoadT .any (a38.add x36.toNat) fun v39 =>
  NextT Go.Proofs.Try.prog (callV keep_33 [v39].toArray) (.tup []) <|
  again37 a31 out_32 keep_33 s34p s34l s34c x35 (addI .i64 x36 1)) (
  LoadT .slice (out_32.add 0) fun s40p s40l s40c =>
  LoadT (.int .u64) (out_32.add 1) fun x41 =>
  Store1 (a31.add 0) (.slice s40p s40l s40c) <|
  Store1 (a31.add 1) (.int .u64 x41) <|
  LoadT .slice (a31.add 0) fun s42p s42l s42c =>
  LoadT (.int .u64) (a31.add 1) fun x43 =>
  k (.agg #[.slice s42p s42l s42c, .int .u64 x43]))
theorem F13_L1_rule {k : Value → W} (I : Addr → Addr → Value → Option Addr → Nat → Nat → Int → Int → W) (μ : Addr → Addr → Value → Option Addr → Nat → Nat → Int → Int → World → Nat)
  (hr : ∀ (a31 : Addr) (out_32 : Addr) (keep_33 : Value) (s34p : Option Addr) (s34l : Nat) (s34c : Nat) (x35 : Int) (x36 : Int) (w : World), I a31 out_32 keep_33 s34p s34l s34c x35 x36 w → F13_L1 k (fun a31' out_32' keep_33' s34p' s34l' s34c' x35' x36' w' => I a31' out_32' keep_33' s34p' s34l' s34c' x35' x36' w' ∧ μ a31' out_32' keep_33' s34p' s34l' s34c' x35' x36' w' < μ a31 out_32 keep_33 s34p s34l s34c x35 x36 w) a31 out_32 keep_33 s34p s34l s34c x35 x36 w)
  {w : World} {a31 : Addr} {out_32 : Addr} {keep_33 : Value} {s34p : Option Addr} {s34l : Nat} {s34c : Nat} {x35 : Int} {x36 : Int} (h : I a31 out_32 keep_33 s34p s34l s34c x35 x36 w) : Loop [.addr, .addr, .any, .slice, (.int .i64), (.int .i64)] (F13_L1 k) a31 out_32 keep_33 s34p s34l s34c x35 x36 w :=
  Loop_intro (ts := [.addr, .addr, .any, .slice, (.int .i64), (.int .i64)]) (s := (a31, out_32, keep_33, (s34p, s34l, s34c), x35, x36, ())) (fun s w => I s.1 s.2.1 s.2.2.1 s.2.2.2.1.1 s.2.2.2.1.2.1 s.2.2.2.1.2.2 s.2.2.2.2.1 s.2.2.2.2.2.1 w) (fun s w => μ s.1 s.2.1 s.2.2.1 s.2.2.2.1.1 s.2.2.2.1.2.1 s.2.2.2.1.2.2 s.2.2.2.2.1 s.2.2.2.2.2.1 w) h (fun s w h => hr s.1 s.2.1 s.2.2.1 s.2.2.2.1.1 s.2.2.2.1.2.1 s.2.2.2.1.2.2 s.2.2.2.2.1 s.2.2.2.2.2.1 w h)
def F13 (k : Value → W) (t_1 : Value) (x2 : Int) (s3p : Option Addr) (s3l : Nat) (s3c : Nat) : W :=
 New [.int .i64 x2, .slice s3p s3l s3c] 38 fun n4 =>
 New [.slice none 0 0, .int .u64 0] 41 fun n5 =>
 New [.slice none 0 0, .int .u64 0] 41 fun n6 =>
 LoadT (.int .i64) ⟨n4, 0, none⟩ fun x7 =>
 BIf (x7 == 1) (
  Drw <|
  LoadT .slice ⟨n4, 1, none⟩ fun s8p s8l s8c =>
  MethOk Go.Proofs.Try.prog (.func (.method "Add") #[t_1] #[]) <|
  CallT Go.Proofs.Try.prog 16 [.slice s8p s8l s8c] (.s (.one .slice)) fun s9p s9l s9c =>
  NextT Go.Proofs.Try.prog (callMethod t_1 "Add" [.slice s9p s9l s9c].toArray) (.tup []) <|
  Chk1 ⟨n4, 1, none⟩ (.slice s8p s8l s8c) <|
  LoadT .slice ⟨n6, 0, none⟩ fun s10p s10l s10c =>
  LoadT (.int .u64) ⟨n6, 1, none⟩ fun x11 =>
  Store1 ⟨n5, 0, none⟩ (.slice s10p s10l s10c) <|
  Store1 ⟨n5, 1, none⟩ (.int .u64 x11) <|
  LoadT .slice ⟨n5, 0, none⟩ fun s12p s12l s12c =>
  LoadT (.int .u64) ⟨n5, 1, none⟩ fun x13 =>
  k (.agg #[.slice s12p s12l s12c, .int .u64 x13])) (
  BIf (x7 == 2) (
   Drw <|
   LoadT .slice ⟨n4, 1, none⟩ fun s14p s14l s14c =>
   MethOk Go.Proofs.Try.prog (.func (.method "Delete") #[t_1] #[]) <|
   CallT Go.Proofs.Try.prog 16 [.slice s14p s14l s14c] (.s (.one .slice)) fun s15p s15l s15c =>
   NextT Go.Proofs.Try.prog (callMethod t_1 "Delete" [.slice s15p s15l s15c].toArray) (.tup []) <|
   Chk1 ⟨n4, 1, none⟩ (.slice s14p s14l s14c) <|
   LoadT .slice ⟨n6, 0, none⟩ fun s16p s16l s16c =>
   LoadT (.int .u64) ⟨n6, 1, none⟩ fun x17 =>
   Store1 ⟨n5, 0, none⟩ (.slice s16p s16l s16c) <|
   Store1 ⟨n5, 1, none⟩ (.int .u64 x17) <|
   LoadT .slice ⟨n5, 0, none⟩ fun s18p s18l s18c =>
   LoadT (.int .u64) ⟨n5, 1, none⟩ fun x19 =>
   k (.agg #[.slice s18p s18l s18c, .int .u64 x19])) (
   BIf (x7 == 3) (
    LoadT .slice ⟨n4, 1, none⟩ fun s20p s20l s20c =>
    BIf (((s20l : Nat) : Int) == 0) (
     LoadT .slice ⟨n6, 0, none⟩ fun s21p s21l s21c =>
     LoadT (.int .u64) ⟨n6, 1, none⟩ fun x22 =>
     Store1 ⟨n5, 0, none⟩ (.slice s21p s21l s21c) <|
     Store1 ⟨n5, 1, none⟩ (.int .u64 x22) <|
     LoadT .slice ⟨n5, 0, none⟩ fun s23p s23l s23c =>
     LoadT (.int .u64) ⟨n5, 1, none⟩ fun x24 =>
     k (.agg #[.slice s23p s23l s23c, .int .u64 x24])) (
     Drw <|
     LoadT .slice ⟨n4, 1, none⟩ fun s25p s25l s25c =>
     NN s25p fun a26 =>
     Req (0 ≤ (0 : Int) ∧ (0 : Int) < ((s25l : Nat) : Int)) <|
     LoadT .slice ((a26.add ((0 : Int).toNat * 3)).add 0) fun s27p s27l s27c =>
     LoadT .slice ((a26.add ((0 : Int).toNat * 3)).add 1) fun s28p s28l s28c =>
     LoadT (.int .u64) ((a26.add ((0 : Int).toNat * 3)).add 2) fun x29 =>
     MethOk Go.Proofs.Try.prog (.func (.method "Query") #[t_1] #[]) <|
     NextT Go.Proofs.Try.prog (callMethod t_1 "Query" [.iface 59 (.agg #[.slice s27p s27l s27c, .slice s28p s28l s28c, .int .u64 x29])].toArray) (.s (.one .slice)) fun s30p s30l s30c =>
     Chk1 ((a26.add ((0 : Int).toNat * 3)).add 0) (.slice s27p s27l s27c) <|
     Chk1 ((a26.add ((0 : Int).toNat * 3)).add 1) (.slice s28p s28l s28c) <|
     Chk1 ((a26.add ((0 : Int).toNat * 3)).add 2) (.int .u64 x29) <|
     Chk1 ⟨n4, 1, none⟩ (.slice s25p s25l s25c) <|
     Loop [.addr, .addr, .any, .slice, (.int .i64), (.int .i64)] (F13_L1 k) ⟨n5, 0, none⟩ ⟨n6, 0, none⟩ (.func (.func 15) #[] #[.pointer (some ⟨n6, 0, none⟩)]) s30p s30l s30c ((s30l : Nat) : Int) 0)) (
    BIf (x7 == 4) (
     NextT Go.Proofs.Try.prog (callMethod t_1 "Len" [].toArray) (.s (.one (.int .u64))) fun x44 =>
     Store1 ⟨n6, 1, none⟩ (.int .u64 x44) <|
     LoadT .slice ⟨n6, 0, none⟩ fun s45p s45l s45c =>
     LoadT (.int .u64) ⟨n6, 1, none⟩ fun x46 =>
     Store1 ⟨n5, 0, none⟩ (.slice s45p s45l s45c) <|
     Store1 ⟨n5, 1, none⟩ (.int .u64 x46) <|
     LoadT .slice ⟨n5, 0, none⟩ fun s47p s47l s47c =>
     LoadT (.int .u64) ⟨n5, 1, none⟩ fun x48 =>
     k (.agg #[.slice s47p s47l s47c, .int .u64 x48])) (
     BIf (x7 == 5) (
      NextT Go.Proofs.Try.prog (callMethod t_1 "Traverse" [.func (.func 15) #[] #[.pointer (some ⟨n6, 0, none⟩)]].toArray) (.tup []) <|
      LoadT .slice ⟨n6, 0, none⟩ fun s49p s49l s49c =>
      LoadT (.int .u64) ⟨n6, 1, none⟩ fun x50 =>
      Store1 ⟨n5, 0, none⟩ (.slice s49p s49l s49c) <|
      Store1 ⟨n5, 1, none⟩ (.int .u64 x50) <|
      LoadT .slice ⟨n5, 0, none⟩ fun s51p s51l s51c =>
      LoadT (.int .u64) ⟨n5, 1, none⟩ fun x52 =>
      k (.agg #[.slice s51p s51l s51c, .int .u64 x52])) (
      LoadT .slice ⟨n6, 0, none⟩ fun s53p s53l s53c =>
      LoadT (.int .u64) ⟨n6, 1, none⟩ fun x54 =>
      Store1 ⟨n5, 0, none⟩ (.slice s53p s53l s53c) <|
      Store1 ⟨n5, 1, none⟩ (.int .u64 x54) <|
      LoadT .slice ⟨n5, 0, none⟩ fun s55p s55l s55c =>
      LoadT (.int .u64) ⟨n5, 1, none⟩ fun x56 =>
      k (.agg #[.slice s55p s55l s55c, .int .u64 x56]))))))
theorem F13_eq (k : Value → W) (t_1 : Value) (x2 : Int) (s3p : Option Addr) (s3l : Nat) (s3c : Nat) : compF Go.Proofs.Try.prog Go.Proofs.Try.f13 [(11, [(4, .addr), (5, .addr), (6, .any), (48, .slice), (49, (.int .i64)), (50, (.int .i64))])] (Go.Proofs.Try.f13.body.getD .skip) [t_1, .agg #[.int .i64 x2, .slice s3p s3l s3c]] k = F13 k t_1 x2 s3p s3l s3c := by kernel_rfl
theorem F13_calls {t_1 : Value} {x2 : Int} {s3p : Option Addr} {s3l : Nat} {s3c : Nat} {w : World} {R : Ending → World → Prop} (h : F13 (fun v w => R (.returned v) w) t_1 x2 s3p s3l s3c w) : Calls Go.Proofs.Try.prog 13 #[t_1, .agg #[.int .i64 x2, .slice s3p s3l s3c]] w R :=
  calls_of_compF noNum follows [(11, [(4, .addr), (5, .addr), (6, .any), (48, .slice), (49, (.int .i64)), (50, (.int .i64))])] (f := 13) (fn := Go.Proofs.Try.f13) (body := Go.Proofs.Try.f13.body.getD .skip) (args := [t_1, .agg #[.int .i64 x2, .slice s3p s3l s3c]]) rfl rfl (Nat.le_of_ble_eq_true rfl) ((congrFun (F13_eq _ t_1 x2 s3p s3l s3c) w).mpr h)
theorem F13_call {t_1 : Value} {x2 : Int} {s3p : Option Addr} {s3l : Nat} {s3c : Nat} {w : World} {g : Fn W (RTy.leaves (.s (.agg [.slice, (.int .u64)])))} (h : F13 (fun v => Back (.s (.agg [.slice, (.int .u64)])) g (.returned v)) t_1 x2 s3p s3l s3c w) : CallT Go.Proofs.Try.prog 13 [t_1, .agg #[.int .i64 x2, .slice s3p s3l s3c]] (.s (.agg [.slice, (.int .u64)])) g w := F13_calls h

/-! ## impl.ATRun -/
def F8_L1 (k : Value → W) (again9 : Value → Option Addr → Nat → Nat → Option Addr → Nat → Nat → Int → Int → W) (t_4 : Value) (out_5p : Option Addr) (out_5l : Nat) (out_5c : Nat) (s6p : Option Addr) (s6l : Nat) (s6c : Nat) (x7 : Int) (x8 : Int) : W :=
 BIf (decide (x8 < x7)) (
  NN s6p fun a10 =>
  Req (0 ≤ x8 ∧ x8 < ((s6l : Nat) : Int)) <|
  LoadT (.int .i64) ((a10.add (x8.toNat * 2)).add 0) fun x11 =>
  LoadT .slice ((a10.add (x8.toNat * 2)).add 1) fun s12p s12l s12c =>
  New [.int .i64 0, .slice none 0 0] 38 fun n13 =>
  Store1 ⟨n13, 0, none⟩ (.int .i64 x11) <|
  Store1 ⟨n13, 1, none⟩ (.slice s12p s12l s12c) <|
  LoadT (.int .i64) ⟨n13, 0, none⟩ fun x14 =>
  LoadT .slice ⟨n13, 1, none⟩ fun s15p s15l s15c =>
  CallT Go.Proofs.Try.prog 13 [t_4, .agg #[.int .i64 x14, .slice s15p s15l s15c]] (.s (.agg [.slice, (.int .u64)])) fun s16p s16l s16c x17 =>
  RawT Go.Proofs.Try.prog (Instr.buildSlice 35 1 [(0, .agg #[.slice s16p s16l s16c, .int .u64 x17])].toArray) (.s (.one .slice)) fun s18p s18l s18c =>
  NextT Go.Proofs.Try.prog (builtin .append #[35, 35] 35 [false, false].toArray [.slice out_5p out_5l out_5c, .slice s18p s18l s18c].toArray) (.s (.one .slice)) fun s19p s19l s19c =>
  again9 t_4 s19p s19l s19c s6p s6l s6c x7 (addI .i64 x8 1)) (
  k (.slice out_5p out_5l out_5c))
theorem F8_L1_rule {k : Value → W} (I : Value → Option Addr → Nat → Nat → Option Addr → Nat → Nat → Int → Int → W) (μ : Value → Option Addr → Nat → Nat → Option Addr → Nat → Nat → Int → Int → World → Nat)
  (hr : ∀ (t_4 : Value) (out_5p : Option Addr) (out_5l : Nat) (out_5c : Nat) (s6p : Option Addr) (s6l : Nat) (s6c : Nat) (x7 : Int) (x8 : Int) (w : World), I t_4 out_5p out_5l out_5c s6p s6l s6c x7 x8 w → F8_L1 k (fun t_4' out_5p' out_5l' out_5c' s6p' s6l' s6c' x7' x8' w' => I t_4' out_5p' out_5l' out_5c' s6p' s6l' s6c' x7' x8' w' ∧ μ t_4' out_5p' out_5l' out_5c' s6p' s6l' s6c' x7' x8' w' < μ t_4 out_5p out_5l out_5c s6p s6l s6c x7 x8 w) t_4 out_5p out_5l out_5c s6p s6l s6c x7 x8 w)
  {w : World} {t_4 : Value} {out_5p : Option Addr} {out_5l : Nat} {out_5c : Nat} {s6p : Option Addr} {s6l : Nat} {s6c : Nat} {x7 : Int} {x8 : Int} (h : I t_4 out_5p out_5l out_5c s6p s6l s6c x7 x8 w) : Loop [.any, .slice, .slice, (.int .i64), (.int .i64)] (F8_L1 k) t_4 out_5p out_5l out_5c s6p s6l s6c x7 x8 w :=
  Loop_intro (ts := [.any, .slice, .slice, (.int .i64), (.int .i64)]) (s := (t_4, (out_5p, out_5l, out_5c), (s6p, s6l, s6c), x7, x8, ())) (fun s w => I s.1 s.2.1.1 s.2.1.2.1 s.2.1.2.2 s.2.2.1.1 s.2.2.1.2.1 s.2.2.1.2.2 s.2.2.2.1 s.2.2.2.2.1 w) (fun s w => μ s.1 s.2.1.1 s.2.1.2.1 s.2.1.2.2 s.2.2.1.1 s.2.2.1.2.1 s.2.2.1.2.2 s.2.2.2.1 s.2.2.2.2.1 w) h (fun s w h => hr s.1 s.2.1.1 s.2.1.2.1 s.2.1.2.2 s.2.2.1.1 s.2.2.1.2.1 s.2.2.1.2.2 s.2.2.2.1 s.2.2.2.2.1 w h)
def F8 (k : Value → W) (dims_1 : Int) (steps_2p : Option Addr) (steps_2l : Nat) (steps_2c : Nat) : W :=
 CallT Go.Proofs.Try.prog 12 [.int .u64 dims_1] (.s (.one .any)) fun v3 =>
 Loop [.any, .slice, .slice, (.int .i64), (.int .i64)] (F8_L1 k) v3 none 0 0 steps_2p steps_2l steps_2c ((steps_2l : Nat) : Int) 0
theorem F8_eq (k : Value → W) (dims_1 : Int) (steps_2p : Option Addr) (steps_2l : Nat) (steps_2c : Nat) : compF Go.Proofs.Try.prog Go.Proofs.Try.f8 [(4, [(5, .any), (6, .slice), (11, .slice), (12, (.int .i64)), (13, (.int .i64))])] (Go.Proofs.Try.f8.body.getD .skip) [.int .u64 dims_1, .slice steps_2p steps_2l steps_2c] k = F8 k dims_1 steps_2p steps_2l steps_2c := by kernel_rfl
theorem F8_calls {dims_1 : Int} {steps_2p : Option Addr} {steps_2l : Nat} {steps_2c : Nat} {w : World} {R : Ending → World → Prop} (h : F8 (fun v w => R (.returned v) w) dims_1 steps_2p steps_2l steps_2c w) : Calls Go.Proofs.Try.prog 8 #[.int .u64 dims_1, .slice steps_2p steps_2l steps_2c] w R :=
  calls_of_compF noNum follows [(4, [(5, .any), (6, .slice), (11, .slice), (12, (.int .i64)), (13, (.int .i64))])] (f := 8) (fn := Go.Proofs.Try.f8) (body := Go.Proofs.Try.f8.body.getD .skip) (args := [.int .u64 dims_1, .slice steps_2p steps_2l steps_2c]) rfl rfl (Nat.le_of_ble_eq_true rfl) ((congrFun (F8_eq _ dims_1 steps_2p steps_2l steps_2c) w).mpr h)
theorem F8_call {dims_1 : Int} {steps_2p : Option Addr} {steps_2l : Nat} {steps_2c : Nat} {w : World} {g : Fn W (RTy.leaves (.s (.one .slice)))} (h : F8 (fun v => Back (.s (.one .slice)) g (.returned v)) dims_1 steps_2p steps_2l steps_2c w) : CallT Go.Proofs.Try.prog 8 [.int .u64 dims_1, .slice steps_2p steps_2l steps_2c] (.s (.one .slice)) g w := F8_calls h

/-! ## laws.atSpan -/
def F7_L1 (k : Value → W) (again26 : Int → Addr → Addr → Addr → Int → Int → W) (dims_20 : Int) (m_21 : Addr) (a22 : Addr) (x_23 : Addr) (by_24 : Int) (i_25 : Int) : W :=
 BIf (decide (i_25 < dims_20)) (
  Req (0 ≤ addI .i64 1 i_25 ∧ addI .i64 1 i_25 < (8 : Int)) <|
  LoadT (.int .i8) (m_21.add ((addI .i64 1 i_25).toNat)) fun x27 =>
  LoadT .slice x_23 fun s28p s28l s28c =>
  RawT Go.Proofs.Try.prog (Instr.buildSlice 27 1 [(0, .int .i64 (mulI .i64 (IntKind.wrap .i64 x27) by_24))].toArray) (.s (.one .slice)) fun s29p s29l s29c =>
  NextT Go.Proofs.Try.prog (builtin .append #[27, 27] 27 [false, false].toArray [.slice s28p s28l s28c, .slice s29p s29l s29c].toArray) (.s (.one .slice)) fun s30p s30l s30c =>
  Store1 x_23 (.slice s30p s30l s30c) <|
  Drw <|
  LoadT .slice (x_23.add 1) fun s31p s31l s31c =>
  Req (0 ≤ addI .i64 4 i_25 ∧ addI .i64 4 i_25 < (8 : Int)) <|
  LoadT (.int .i8) (m_21.add ((addI .i64 4 i_25).toNat)) fun x32 =>
  Req (60 ≠ (0 : Int)) <|
  RawT Go.Proofs.Try.prog (Instr.buildSlice 27 1 [(0, .int .i64 (mulI .i64 (addI .i64 (IntKind.wrap .i64 x27) (IntKind.wrap .i64 (remI (IntKind.wrap .u8 x32) 60))) by_24))].toArray) (.s (.one .slice)) fun s33p s33l s33c =>
  Chk1 (m_21.add ((addI .i64 4 i_25).toNat)) (.int .i8 x32) <|
  Chk1 (x_23.add 1) (.slice s31p s31l s31c) <|
  NextT Go.Proofs.Try.prog (builtin .append #[27, 27] 27 [false, false].toArray [.slice s31p s31l s31c, .slice s33p s33l s33c].toArray) (.s (.one .slice)) fun s34p s34l s34c =>
  Chk1 (m_21.add ((addI .i64 4 i_25).toNat)) (.int .i8 x32) <|
  Store1 (x_23.add 1) (.slice s34p s34l s34c) <|
  again26 dims_20 m_21 a22 x_23 by_24 (addI .i64 i_25 1)) (
  LoadT .slice (x_23.add 0) fun s35p s35l s35c =>
  LoadT .slice (x_23.add 1) fun s36p s36l s36c =>
  LoadT (.int .u64) (x_23.add 2) fun x37 =>
  Store1 (a22.add 0) (.slice s35p s35l s35c) <|
  Store1 (a22.add 1) (.slice s36p s36l s36c) <|
  Store1 (a22.add 2) (.int .u64 x37) <|
  LoadT .slice (a22.add 0) fun s38p s38l s38c =>
  LoadT .slice (a22.add 1) fun s39p s39l s39c =>
  LoadT (.int .u64) (a22.add 2) fun x40 =>
  k (.agg #[.slice s38p s38l s38c, .slice s39p s39l s39c, .int .u64 x40]))
theorem F7_L1_rule {k : Value → W} (I : Int → Addr → Addr → Addr → Int → Int → W) (μ : Int → Addr → Addr → Addr → Int → Int → World → Nat)
  (hr : ∀ (dims_20 : Int) (m_21 : Addr) (a22 : Addr) (x_23 : Addr) (by_24 : Int) (i_25 : Int) (w : World), I dims_20 m_21 a22 x_23 by_24 i_25 w → F7_L1 k (fun dims_20' m_21' a22' x_23' by_24' i_25' w' => I dims_20' m_21' a22' x_23' by_24' i_25' w' ∧ μ dims_20' m_21' a22' x_23' by_24' i_25' w' < μ dims_20 m_21 a22 x_23 by_24 i_25 w) dims_20 m_21 a22 x_23 by_24 i_25 w)
  {w : World} {dims_20 : Int} {m_21 : Addr} {a22 : Addr} {x_23 : Addr} {by_24 : Int} {i_25 : Int} (h : I dims_20 m_21 a22 x_23 by_24 i_25 w) : Loop [(.int .i64), .addr, .addr, .addr, (.int .i64), (.int .i64)] (F7_L1 k) dims_20 m_21 a22 x_23 by_24 i_25 w :=
  Loop_intro (ts := [(.int .i64), .addr, .addr, .addr, (.int .i64), (.int .i64)]) (s := (dims_20, m_21, a22, x_23, by_24, i_25, ())) (fun s w => I s.1 s.2.1 s.2.2.1 s.2.2.2.1 s.2.2.2.2.1 s.2.2.2.2.2.1 w) (fun s w => μ s.1 s.2.1 s.2.2.1 s.2.2.2.1 s.2.2.2.2.1 s.2.2.2.2.2.1 w) h (fun s w h => hr s.1 s.2.1 s.2.2.1 s.2.2.2.1 s.2.2.2.2.1 s.2.2.2.2.2.1 w h)
def F7_J1 (k : Value → W) (dims_15 : Int) (m_16 : Addr) (a17 : Addr) (x_18 : Addr) (by_19 : Int) : W :=
 Loop [(.int .i64), .addr, .addr, .addr, (.int .i64), (.int .i64)] (F7_L1 k) dims_15 m_16 a17 x_18 by_19 0
def F7 (k : Value → W) (dims_1 : Int) (x2 : Int) (x3 : Int) (x4 : Int) (x5 : Int) (x6 : Int) (x7 : Int) (x8 : Int) (x9 : Int) (far_10 : Bool) (id_11 : Int) : W :=
 New [.int .i8 x2, .int .i8 x3, .int .i8 x4, .int .i8 x5, .int .i8 x6, .int .i8 x7, .int .i8 x8, .int .i8 x9] 24 fun n12 =>
 New [.slice none 0 0, .slice none 0 0, .int .u64 0] 32 fun n13 =>
 New [.slice none 0 0, .slice none 0 0, .int .u64 0] 32 fun n14 =>
 Store1 ⟨n14, 0, none⟩ (.slice none 0 0) <|
 Store1 ⟨n14, 1, none⟩ (.slice none 0 0) <|
 Store1 ⟨n14, 2, none⟩ (.int .u64 id_11) <|
 BIf far_10 (
  F7_J1 k dims_1 ⟨n12, 0, none⟩ ⟨n13, 0, none⟩ ⟨n14, 0, none⟩ 18014398509481984) (
  F7_J1 k dims_1 ⟨n12, 0, none⟩ ⟨n13, 0, none⟩ ⟨n14, 0, none⟩ 1)
theorem F7_eq (k : Value → W) (dims_1 : Int) (x2 : Int) (x3 : Int) (x4 : Int) (x5 : Int) (x6 : Int) (x7 : Int) (x8 : Int) (x9 : Int) (far_10 : Bool) (id_11 : Int) : compF Go.Proofs.Try.prog Go.Proofs.Try.f7 [(6, [(0, (.int .i64)), (5, .addr), (8, .addr), (9, .addr), (10, (.int .i64)), (11, (.int .i64))])] (Go.Proofs.Try.f7.body.getD .skip) [.int .i64 dims_1, .agg #[.int .i8 x2, .int .i8 x3, .int .i8 x4, .int .i8 x5, .int .i8 x6, .int .i8 x7, .int .i8 x8, .int .i8 x9], .bool far_10, .int .u64 id_11] k = F7 k dims_1 x2 x3 x4 x5 x6 x7 x8 x9 far_10 id_11 := by kernel_rfl
theorem F7_calls {dims_1 : Int} {x2 : Int} {x3 : Int} {x4 : Int} {x5 : Int} {x6 : Int} {x7 : Int} {x8 : Int} {x9 : Int} {far_10 : Bool} {id_11 : Int} {w : World} {R : Ending → World → Prop} (h : F7 (fun v w => R (.returned v) w) dims_1 x2 x3 x4 x5 x6 x7 x8 x9 far_10 id_11 w) : Calls Go.Proofs.Try.prog 7 #[.int .i64 dims_1, .agg #[.int .i8 x2, .int .i8 x3, .int .i8 x4, .int .i8 x5, .int .i8 x6, .int .i8 x7, .int .i8 x8, .int .i8 x9], .bool far_10, .int .u64 id_11] w R :=
  calls_of_compF noNum follows [(6, [(0, (.int .i64)), (5, .addr), (8, .addr), (9, .addr), (10, (.int .i64)), (11, (.int .i64))])] (f := 7) (fn := Go.Proofs.Try.f7) (body := Go.Proofs.Try.f7.body.getD .skip) (args := [.int .i64 dims_1, .agg #[.int .i8 x2, .int .i8 x3, .int .i8 x4, .int .i8 x5, .int .i8 x6, .int .i8 x7, .int .i8 x8, .int .i8 x9], .bool far_10, .int .u64 id_11]) rfl rfl (Nat.le_of_ble_eq_true rfl) ((congrFun (F7_eq _ dims_1 x2 x3 x4 x5 x6 x7 x8 x9 far_10 id_11) w).mpr h)
theorem F7_call {dims_1 : Int} {x2 : Int} {x3 : Int} {x4 : Int} {x5 : Int} {x6 : Int} {x7 : Int} {x8 : Int} {x9 : Int} {far_10 : Bool} {id_11 : Int} {w : World} {g : Fn W (RTy.leaves (.s (.agg [.slice, .slice, (.int .u64)])))} (h : F7 (fun v => Back (.s (.agg [.slice, .slice, (.int .u64)])) g (.returned v)) dims_1 x2 x3 x4 x5 x6 x7 x8 x9 far_10 id_11 w) : CallT Go.Proofs.Try.prog 7 [.int .i64 dims_1, .agg #[.int .i8 x2, .int .i8 x3, .int .i8 x4, .int .i8 x5, .int .i8 x6, .int .i8 x7, .int .i8 x8, .int .i8 x9], .bool far_10, .int .u64 id_11] (.s (.agg [.slice, .slice, (.int .u64)])) g w := F7_calls h

/-! ## laws.deepSpans -/
def F5_L1 (k : Value → W) (again7 : Int → Option Addr → Nat → Nat → Option Addr → Nat → Nat → Int → W) (dims_3 : Int) (moves_4p : Option Addr) (moves_4l : Nat) (moves_4c : Nat) (out_5p : Option Addr) (out_5l : Nat) (out_5c : Nat) (i_6 : Int) : W :=
 BIf (decide (i_6 < ((moves_4l : Nat) : Int))) (
  BIf (decide (i_6 < 30)) (
   NN moves_4p fun a8 =>
   Req (0 ≤ i_6 ∧ i_6 < ((moves_4l : Nat) : Int)) <|
   LoadT (.int .i8) ((a8.add (i_6.toNat * 8)).add 0) fun x9 =>
   LoadT (.int .i8) ((a8.add (i_6.toNat * 8)).add 1) fun x10 =>
   LoadT (.int .i8) ((a8.add (i_6.toNat * 8)).add 2) fun x11 =>
   LoadT (.int .i8) ((a8.add (i_6.toNat * 8)).add 3) fun x12 =>
   LoadT (.int .i8) ((a8.add (i_6.toNat * 8)).add 4) fun x13 =>
   LoadT (.int .i8) ((a8.add (i_6.toNat * 8)).add 5) fun x14 =>
   LoadT (.int .i8) ((a8.add (i_6.toNat * 8)).add 6) fun x15 =>
   LoadT (.int .i8) ((a8.add (i_6.toNat * 8)).add 7) fun x16 =>
   CallT Go.Proofs.Try.prog 7 [.int .i64 dims_3, .agg #[.int .i8 x9, .int .i8 x10, .int .i8 x11, .int .i8 x12, .int .i8 x13, .int .i8 x14, .int .i8 x15, .int .i8 x16], .bool false, .int .u64 (IntKind.wrap .u64 (addI .i64 i_6 1))] (.s (.agg [.slice, .slice, (.int .u64)])) fun s17p s17l s17c s18p s18l s18c x19 =>
   RawT Go.Proofs.Try.prog (Instr.buildSlice 25 1 [(0, .agg #[.slice s17p s17l s17c, .slice s18p s18l s18c, .int .u64 x19])].toArray) (.s (.one .slice)) fun s20p s20l s20c =>
   NextT Go.Proofs.Try.prog (builtin .append #[25, 25] 25 [false, false].toArray [.slice out_5p out_5l out_5c, .slice s20p s20l s20c].toArray) (.s (.one .slice)) fun s21p s21l s21c =>
   again7 dims_3 moves_4p moves_4l moves_4c s21p s21l s21c (addI .i64 i_6 1)) (
   k (.slice out_5p out_5l out_5c))) (
  k (.slice out_5p out_5l out_5c))
theorem F5_L1_rule {k : Value → W} (I : Int → Option Addr → Nat → Nat → Option Addr → Nat → Nat → Int → W) (μ : Int → Option Addr → Nat → Nat → Option Addr → Nat → Nat → Int → World → Nat)
  (hr : ∀ (dims_3 : Int) (moves_4p : Option Addr) (moves_4l : Nat) (moves_4c : Nat) (out_5p : Option Addr) (out_5l : Nat) (out_5c : Nat) (i_6 : Int) (w : World), I dims_3 moves_4p moves_4l moves_4c out_5p out_5l out_5c i_6 w → F5_L1 k (fun dims_3' moves_4p' moves_4l' moves_4c' out_5p' out_5l' out_5c' i_6' w' => I dims_3' moves_4p' moves_4l' moves_4c' out_5p' out_5l' out_5c' i_6' w' ∧ μ dims_3' moves_4p' moves_4l' moves_4c' out_5p' out_5l' out_5c' i_6' w' < μ dims_3 moves_4p moves_4l moves_4c out_5p out_5l out_5c i_6 w) dims_3 moves_4p moves_4l moves_4c out_5p out_5l out_5c i_6 w)
  {w : World} {dims_3 : Int} {moves_4p : Option Addr} {moves_4l : Nat} {moves_4c : Nat} {out_5p : Option Addr} {out_5l : Nat} {out_5c : Nat} {i_6 : Int} (h : I dims_3 moves_4p moves_4l moves_4c out_5p out_5l out_5c i_6 w) : Loop [(.int .i64), .slice, .slice, (.int .i64)] (F5_L1 k) dims_3 moves_4p moves_4l moves_4c out_5p out_5l out_5c i_6 w :=
  Loop_intro (ts := [(.int .i64), .slice, .slice, (.int .i64)]) (s := (dims_3, (moves_4p, moves_4l, moves_4c), (out_5p, out_5l, out_5c), i_6, ())) (fun s w => I s.1 s.2.1.1 s.2.1.2.1 s.2.1.2.2 s.2.2.1.1 s.2.2.1.2.1 s.2.2.1.2.2 s.2.2.2.1 w) (fun s w => μ s.1 s.2.1.1 s.2.1.2.1 s.2.1.2.2 s.2.2.1.1 s.2.2.1.2.1 s.2.2.1.2.2 s.2.2.2.1 w) h (fun s w h => hr s.1 s.2.1.1 s.2.1.2.1 s.2.1.2.2 s.2.2.1.1 s.2.2.1.2.1 s.2.2.1.2.2 s.2.2.2.1 w h)
def F5 (k : Value → W) (dims_1 : Int) (moves_2p : Option Addr) (moves_2l : Nat) (moves_2c : Nat) : W :=
 Loop [(.int .i64), .slice, .slice, (.int .i64)] (F5_L1 k) dims_1 moves_2p moves_2l moves_2c none 0 0 0
theorem F5_eq (k : Value → W) (dims_1 : Int) (moves_2p : Option Addr) (moves_2l : Nat) (moves_2c : Nat) : compF Go.Proofs.Try.prog Go.Proofs.Try.f5 [(3, [(0, (.int .i64)), (1, .slice), (5, .slice), (6, (.int .i64))])] (Go.Proofs.Try.f5.body.getD .skip) [.int .i64 dims_1, .slice moves_2p moves_2l moves_2c] k = F5 k dims_1 moves_2p moves_2l moves_2c := by kernel_rfl
theorem F5_calls {dims_1 : Int} {moves_2p : Option Addr} {moves_2l : Nat} {moves_2c : Nat} {w : World} {R : Ending → World → Prop} (h : F5 (fun v w => R (.returned v) w) dims_1 moves_2p moves_2l moves_2c w) : Calls Go.Proofs.Try.prog 5 #[.int .i64 dims_1, .slice moves_2p moves_2l moves_2c] w R :=
  calls_of_compF noNum follows [(3, [(0, (.int .i64)), (1, .slice), (5, .slice), (6, (.int .i64))])] (f := 5) (fn := Go.Proofs.Try.f5) (body := Go.Proofs.Try.f5.body.getD .skip) (args := [.int .i64 dims_1, .slice moves_2p moves_2l moves_2c]) rfl rfl (Nat.le_of_ble_eq_true rfl) ((congrFun (F5_eq _ dims_1 moves_2p moves_2l moves_2c) w).mpr h)
theorem F5_call {dims_1 : Int} {moves_2p : Option Addr} {moves_2l : Nat} {moves_2c : Nat} {w : World} {g : Fn W (RTy.leaves (.s (.one .slice)))} (h : F5 (fun v => Back (.s (.one .slice)) g (.returned v)) dims_1 moves_2p moves_2l moves_2c w) : CallT Go.Proofs.Try.prog 5 [.int .i64 dims_1, .slice moves_2p moves_2l moves_2c] (.s (.one .slice)) g w := F5_calls h

/-! ## laws.atIn -/
def F6 (k : Value → W) (s1p : Option Addr) (s1l : Nat) (s1c : Nat) (s2p : Option Addr) (s2l : Nat) (s2c : Nat) (x3 : Int) : W :=
 New [.slice s1p s1l s1c, .slice s2p s2l s2c, .int .u64 x3] 32 fun n4 =>
 New [.slice none 0 0, .slice none 0 0, .int .u64 0] 30 fun n5 =>
 Drw <|
 LoadT .slice ⟨n4, 0, none⟩ fun s6p s6l s6c =>
 LoadT .slice ⟨n4, 1, none⟩ fun s7p s7l s7c =>
 LoadT (.int .u64) ⟨n4, 2, none⟩ fun x8 =>
 Both (
  RawT Go.Proofs.Try.prog (Instr.buildSlice 27 0 [].toArray) (.s (.one .slice)) fun s9p s9l s9c =>
  Chk1 ⟨n4, 2, none⟩ (.int .u64 x8) <|
  Chk1 ⟨n4, 1, none⟩ (.slice s7p s7l s7c) <|
  Chk1 ⟨n4, 0, none⟩ (.slice s6p s6l s6c) <|
  Both (
   NextT Go.Proofs.Try.prog (builtin .append #[27, 27] 27 [false, false].toArray [.slice s9p s9l s9c, .slice s6p s6l s6c].toArray) (.s (.one .slice)) fun s10p s10l s10c =>
   Chk1 ⟨n4, 2, none⟩ (.int .u64 x8) <|
   Chk1 ⟨n4, 1, none⟩ (.slice s7p s7l s7c) <|
   RawT Go.Proofs.Try.prog (Instr.buildSlice 27 0 [].toArray) (.s (.one .slice)) fun s11p s11l s11c =>
   Chk1 ⟨n4, 2, none⟩ (.int .u64 x8) <|
   Chk1 ⟨n4, 1, none⟩ (.slice s7p s7l s7c) <|
   Chk1 ⟨n4, 0, none⟩ (.slice s6p s6l s6c) <|
   NextT Go.Proofs.Try.prog (builtin .append #[27, 27] 27 [false, false].toArray [.slice s11p s11l s11c, .slice s7p s7l s7c].toArray) (.s (.one .slice)) fun s12p s12l s12c =>
   Chk1 ⟨n4, 2, none⟩ (.int .u64 x8) <|
   Chk1 ⟨n4, 0, none⟩ (.slice s6p s6l s6c) <|
   Store1 ⟨n5, 0, none⟩ (.slice s10p s10l s10c) <|
   Store1 ⟨n5, 1, none⟩ (.slice s12p s12l s12c) <|
   Store1 ⟨n5, 2, none⟩ (.int .u64 x8) <|
   LoadT .slice ⟨n5, 0, none⟩ fun s13p s13l s13c =>
   LoadT .slice ⟨n5, 1, none⟩ fun s14p s14l s14c =>
   LoadT (.int .u64) ⟨n5, 2, none⟩ fun x15 =>
   k (.agg #[.slice s13p s13l s13c, .slice s14p s14l s14c, .int .u64 x15])) (
   RawT Go.Proofs.Try.prog (Instr.buildSlice 27 0 [].toArray) (.s (.one .slice)) fun s16p s16l s16c =>
   Chk1 ⟨n4, 2, none⟩ (.int .u64 x8) <|
   Chk1 ⟨n4, 1, none⟩ (.slice s7p s7l s7c) <|
   Chk1 ⟨n4, 0, none⟩ (.slice s6p s6l s6c) <|
   NextT Go.Proofs.Try.prog (builtin .append #[27, 27] 27 [false, false].toArray [.slice s9p s9l s9c, .slice s6p s6l s6c].toArray) (.s (.one .slice)) fun s17p s17l s17c =>
   Chk1 ⟨n4, 2, none⟩ (.int .u64 x8) <|
   Chk1 ⟨n4, 1, none⟩ (.slice s7p s7l s7c) <|
   NextT Go.Proofs.Try.prog (builtin .append #[27, 27] 27 [false, false].toArray [.slice s16p s16l s16c, .slice s7p s7l s7c].toArray) (.s (.one .slice)) fun s18p s18l s18c =>
   Chk1 ⟨n4, 2, none⟩ (.int .u64 x8) <|
   Chk1 ⟨n4, 0, none⟩ (.slice s6p s6l s6c) <|
   Store1 ⟨n5, 0, none⟩ (.slice s17p s17l s17c) <|
   Store1 ⟨n5, 1, none⟩ (.slice s18p s18l s18c) <|
   Store1 ⟨n5, 2, none⟩ (.int .u64 x8) <|
   LoadT .slice ⟨n5, 0, none⟩ fun s19p s19l s19c =>
   LoadT .slice ⟨n5, 1, none⟩ fun s20p s20l s20c =>
   LoadT (.int .u64) ⟨n5, 2, none⟩ fun x21 =>
   k (.agg #[.slice s19p s19l s19c, .slice s20p s20l s20c, .int .u64 x21]))) (
  RawT Go.Proofs.Try.prog (Instr.buildSlice 27 0 [].toArray) (.s (.one .slice)) fun s22p s22l s22c =>
  Chk1 ⟨n4, 2, none⟩ (.int .u64 x8) <|
  Chk1 ⟨n4, 1, none⟩ (.slice s7p s7l s7c) <|
  Chk1 ⟨n4, 0, none⟩ (.slice s6p s6l s6c) <|
  RawT Go.Proofs.Try.prog (Instr.buildSlice 27 0 [].toArray) (.s (.one .slice)) fun s23p s23l s23c =>
  Chk1 ⟨n4, 2, none⟩ (.int .u64 x8) <|
  Chk1 ⟨n4, 1, none⟩ (.slice s7p s7l s7c) <|
  Chk1 ⟨n4, 0, none⟩ (.slice s6p s6l s6c) <|
  NextT Go.Proofs.Try.prog (builtin .append #[27, 27] 27 [false, false].toArray [.slice s23p s23l s23c, .slice s6p s6l s6c].toArray) (.s (.one .slice)) fun s24p s24l s24c =>
  Chk1 ⟨n4, 2, none⟩ (.int .u64 x8) <|
  Chk1 ⟨n4, 1, none⟩ (.slice s7p s7l s7c) <|
  NextT Go.Proofs.Try.prog (builtin .append #[27, 27] 27 [false, false].toArray [.slice s22p s22l s22c, .slice s7p s7l s7c].toArray) (.s (.one .slice)) fun s25p s25l s25c =>
  Chk1 ⟨n4, 2, none⟩ (.int .u64 x8) <|
  Chk1 ⟨n4, 0, none⟩ (.slice s6p s6l s6c) <|
  Store1 ⟨n5, 0, none⟩ (.slice s24p s24l s24c) <|
  Store1 ⟨n5, 1, none⟩ (.slice s25p s25l s25c) <|
  Store1 ⟨n5, 2, none⟩ (.int .u64 x8) <|
  LoadT .slice ⟨n5, 0, none⟩ fun s26p s26l s26c =>
  LoadT .slice ⟨n5, 1, none⟩ fun s27p s27l s27c =>
  LoadT (.int .u64) ⟨n5, 2, none⟩ fun x28 =>
  k (.agg #[.slice s26p s26l s26c, .slice s27p s27l s27c, .int .u64 x28]))
theorem F6_eq (k : Value → W) (s1p : Option Addr) (s1l : Nat) (s1c : Nat) (s2p : Option Addr) (s2l : Nat) (s2c : Nat) (x3 : Int) : compF Go.Proofs.Try.prog Go.Proofs.Try.f6 [] (Go.Proofs.Try.f6.body.getD .skip) [.agg #[.slice s1p s1l s1c, .slice s2p s2l s2c, .int .u64 x3]] k = F6 k s1p s1l s1c s2p s2l s2c x3 := by kernel_rfl
theorem F6_calls {s1p : Option Addr} {s1l : Nat} {s1c : Nat} {s2p : Option Addr} {s2l : Nat} {s2c : Nat} {x3 : Int} {w : World} {R : Ending → World → Prop} (h : F6 (fun v w => R (.returned v) w) s1p s1l s1c s2p s2l s2c x3 w) : Calls Go.Proofs.Try.prog 6 #[.agg #[.slice s1p s1l s1c, .slice s2p s2l s2c, .int .u64 x3]] w R :=
  calls_of_compF noNum follows [] (f := 6) (fn := Go.Proofs.Try.f6) (body := Go.Proofs.Try.f6.body.getD .skip) (args := [.agg #[.slice s1p s1l s1c, .slice s2p s2l s2c, .int .u64 x3]]) rfl rfl (Nat.le_of_ble_eq_true rfl) ((congrFun (F6_eq _ s1p s1l s1c s2p s2l s2c x3) w).mpr h)
theorem F6_call {s1p : Option Addr} {s1l : Nat} {s1c : Nat} {s2p : Option Addr} {s2l : Nat} {s2c : Nat} {x3 : Int} {w : World} {g : Fn W (RTy.leaves (.s (.agg [.slice, .slice, (.int .u64)])))} (h : F6 (fun v => Back (.s (.agg [.slice, .slice, (.int .u64)])) g (.returned v)) s1p s1l s1c s2p s2l s2c x3 w) : CallT Go.Proofs.Try.prog 6 [.agg #[.slice s1p s1l s1c, .slice s2p s2l s2c, .int .u64 x3]] (.s (.agg [.slice, .slice, (.int .u64)])) g w := F6_calls h

/-! ## laws.deepAlone -/
def F10_J1 (k : Value → W) (again7 : Option Addr → Nat → Nat → Bool → Option Addr → Nat → Nat → Int → W) (l_9p : Option Addr) (l_9l : Nat) (l_9c : Nat) (back_10 : Bool) (out_11p : Option Addr) (out_11l : Nat) (out_11c : Nat) (i_12 : Int) (k_13 : Int) : W :=
 Req (0 ≤ addI .i64 k_13 1 ∧ addI .i64 k_13 1 ≤ ((l_9c : Nat) : Int)) <|
 Req (0 ≤ k_13 ∧ k_13 ≤ (((addI .i64 k_13 1).toNat : Nat) : Int)) <|
 RawT Go.Proofs.Try.prog (Instr.buildSlice 46 1 [(0, .slice (sliceA l_9p k_13.toNat l_9c 3) (((addI .i64 k_13 1).toNat) - k_13.toNat) (l_9c - k_13.toNat))].toArray) (.s (.one .slice)) fun s14p s14l s14c =>
 NextT Go.Proofs.Try.prog (builtin .append #[46, 46] 46 [false, false].toArray [.slice out_11p out_11l out_11c, .slice s14p s14l s14c].toArray) (.s (.one .slice)) fun s15p s15l s15c =>
 again7 l_9p l_9l l_9c back_10 s15p s15l s15c (addI .i64 i_12 1)
def F10_L1 (k : Value → W) (again7 : Option Addr → Nat → Nat → Bool → Option Addr → Nat → Nat → Int → W) (l_3p : Option Addr) (l_3l : Nat) (l_3c : Nat) (back_4 : Bool) (out_5p : Option Addr) (out_5l : Nat) (out_5c : Nat) (i_6 : Int) : W :=
 BIf (decide (i_6 < ((l_3l : Nat) : Int))) (
  BIf back_4 (
   Bind (subI .i64 (subI .i64 ((l_3l : Nat) : Int) 1) i_6 : Int) fun k_8 =>
   F10_J1 k again7 l_3p l_3l l_3c back_4 out_5p out_5l out_5c i_6 k_8) (
   F10_J1 k again7 l_3p l_3l l_3c back_4 out_5p out_5l out_5c i_6 i_6)) (
  k (.slice out_5p out_5l out_5c))
theorem F10_L1_rule {k : Value → W} (I : Option Addr → Nat → Nat → Bool → Option Addr → Nat → Nat → Int → W) (μ : Option Addr → Nat → Nat → Bool → Option Addr → Nat → Nat → Int → World → Nat)
  (hr : ∀ (l_3p : Option Addr) (l_3l : Nat) (l_3c : Nat) (back_4 : Bool) (out_5p : Option Addr) (out_5l : Nat) (out_5c : Nat) (i_6 : Int) (w : World), I l_3p l_3l l_3c back_4 out_5p out_5l out_5c i_6 w → F10_L1 k (fun l_3p' l_3l' l_3c' back_4' out_5p' out_5l' out_5c' i_6' w' => I l_3p' l_3l' l_3c' back_4' out_5p' out_5l' out_5c' i_6' w' ∧ μ l_3p' l_3l' l_3c' back_4' out_5p' out_5l' out_5c' i_6' w' < μ l_3p l_3l l_3c back_4 out_5p out_5l out_5c i_6 w) l_3p l_3l l_3c back_4 out_5p out_5l out_5c i_6 w)
  {w : World} {l_3p : Option Addr} {l_3l : Nat} {l_3c : Nat} {back_4 : Bool} {out_5p : Option Addr} {out_5l : Nat} {out_5c : Nat} {i_6 : Int} (h : I l_3p l_3l l_3c back_4 out_5p out_5l out_5c i_6 w) : Loop [.slice, .bool, .slice, (.int .i64)] (F10_L1 k) l_3p l_3l l_3c back_4 out_5p out_5l out_5c i_6 w :=
  Loop_intro (ts := [.slice, .bool, .slice, (.int .i64)]) (s := ((l_3p, l_3l, l_3c), back_4, (out_5p, out_5l, out_5c), i_6, ())) (fun s w => I s.1.1 s.1.2.1 s.1.2.2 s.2.1 s.2.2.1.1 s.2.2.1.2.1 s.2.2.1.2.2 s.2.2.2.1 w) (fun s w => μ s.1.1 s.1.2.1 s.1.2.2 s.2.1 s.2.2.1.1 s.2.2.1.2.1 s.2.2.1.2.2 s.2.2.2.1 w) h (fun s w h => hr s.1.1 s.1.2.1 s.1.2.2 s.2.1 s.2.2.1.1 s.2.2.1.2.1 s.2.2.1.2.2 s.2.2.2.1 w h)
def F10 (k : Value → W) (l_1p : Option Addr) (l_1l : Nat) (l_1c : Nat) (back_2 : Bool) : W :=
 Loop [.slice, .bool, .slice, (.int .i64)] (F10_L1 k) l_1p l_1l l_1c back_2 none 0 0 0
theorem F10_eq (k : Value → W) (l_1p : Option Addr) (l_1l : Nat) (l_1c : Nat) (back_2 : Bool) : compF Go.Proofs.Try.prog Go.Proofs.Try.f10 [(3, [(0, .slice), (1, .bool), (5, .slice), (6, (.int .i64))])] (Go.Proofs.Try.f10.body.getD .skip) [.slice l_1p l_1l l_1c, .bool back_2] k = F10 k l_1p l_1l l_1c back_2 := by kernel_rfl
theorem F10_calls {l_1p : Option Addr} {l_1l : Nat} {l_1c : Nat} {back_2 : Bool} {w : World} {R : Ending → World → Prop} (h : F10 (fun v w => R (.returned v) w) l_1p l_1l l_1c back_2 w) : Calls Go.Proofs.Try.prog 10 #[.slice l_1p l_1l l_1c, .bool back_2] w R :=
  calls_of_compF noNum follows [(3, [(0, .slice), (1, .bool), (5, .slice), (6, (.int .i64))])] (f := 10) (fn := Go.Proofs.Try.f10) (body := Go.Proofs.Try.f10.body.getD .skip) (args := [.slice l_1p l_1l l_1c, .bool back_2]) rfl rfl (Nat.le_of_ble_eq_true rfl) ((congrFun (F10_eq _ l_1p l_1l l_1c back_2) w).mpr h)
theorem F10_call {l_1p : Option Addr} {l_1l : Nat} {l_1c : Nat} {back_2 : Bool} {w : World} {g : Fn W (RTy.leaves (.s (.one .slice)))} (h : F10 (fun v => Back (.s (.one .slice)) g (.returned v)) l_1p l_1l l_1c back_2 w) : CallT Go.Proofs.Try.prog 10 [.slice l_1p l_1l l_1c, .bool back_2] (.s (.one .slice)) g w := F10_calls h

/-! ## spec.BASame -/
def F11_L1 (k : Value → W) (again6 : Option Addr → Nat → Nat → Option Addr → Nat → Nat → Int → W) (a_3p : Option Addr) (a_3l : Nat) (a_3c : Nat) (b_4p : Option Addr) (b_4l : Nat) (b_4c : Nat) (i_5 : Int) : W :=
 BIf (decide (i_5 < ((a_3l : Nat) : Int))) (
  Drw <|
  NN a_3p fun a7 =>
  Req (0 ≤ i_5 ∧ i_5 < ((a_3l : Nat) : Int)) <|
  LoadT (.int .u64) (a7.add i_5.toNat) fun x8 =>
  NN b_4p fun a9 =>
  Req (0 ≤ i_5 ∧ i_5 < ((b_4l : Nat) : Int)) <|
  LoadT (.int .u64) (a9.add i_5.toNat) fun x10 =>
  BIf (x8 != x10) (
   k (.bool false)) (
   again6 a_3p a_3l a_3c b_4p b_4l b_4c (addI .i64 i_5 1))) (
  k (.bool true))
theorem F11_L1_rule {k : Value → W} (I : Option Addr → Nat → Nat → Option Addr → Nat → Nat → Int → W) (μ : Option Addr → Nat → Nat → Option Addr → Nat → Nat → Int → World → Nat)
  (hr : ∀ (a_3p : Option Addr) (a_3l : Nat) (a_3c : Nat) (b_4p : Option Addr) (b_4l : Nat) (b_4c : Nat) (i_5 : Int) (w : World), I a_3p a_3l a_3c b_4p b_4l b_4c i_5 w → F11_L1 k (fun a_3p' a_3l' a_3c' b_4p' b_4l' b_4c' i_5' w' => I a_3p' a_3l' a_3c' b_4p' b_4l' b_4c' i_5' w' ∧ μ a_3p' a_3l' a_3c' b_4p' b_4l' b_4c' i_5' w' < μ a_3p a_3l a_3c b_4p b_4l b_4c i_5 w) a_3p a_3l a_3c b_4p b_4l b_4c i_5 w)
  {w : World} {a_3p : Option Addr} {a_3l : Nat} {a_3c : Nat} {b_4p : Option Addr} {b_4l : Nat} {b_4c : Nat} {i_5 : Int} (h : I a_3p a_3l a_3c b_4p b_4l b_4c i_5 w) : Loop [.slice, .slice, (.int .i64)] (F11_L1 k) a_3p a_3l a_3c b_4p b_4l b_4c i_5 w :=
  Loop_intro (ts := [.slice, .slice, (.int .i64)]) (s := ((a_3p, a_3l, a_3c), (b_4p, b_4l, b_4c), i_5, ())) (fun s w => I s.1.1 s.1.2.1 s.1.2.2 s.2.1.1 s.2.1.2.1 s.2.1.2.2 s.2.2.1 w) (fun s w => μ s.1.1 s.1.2.1 s.1.2.2 s.2.1.1 s.2.1.2.1 s.2.1.2.2 s.2.2.1 w) h (fun s w h => hr s.1.1 s.1.2.1 s.1.2.2 s.2.1.1 s.2.1.2.1 s.2.1.2.2 s.2.2.1 w h)
def F11 (k : Value → W) (a_1p : Option Addr) (a_1l : Nat) (a_1c : Nat) (b_2p : Option Addr) (b_2l : Nat) (b_2c : Nat) : W :=
 BIf (((a_1l : Nat) : Int) != ((b_2l : Nat) : Int)) (
  k (.bool false)) (
  Loop [.slice, .slice, (.int .i64)] (F11_L1 k) a_1p a_1l a_1c b_2p b_2l b_2c 0)
theorem F11_eq (k : Value → W) (a_1p : Option Addr) (a_1l : Nat) (a_1c : Nat) (b_2p : Option Addr) (b_2l : Nat) (b_2c : Nat) : compF Go.Proofs.Try.prog Go.Proofs.Try.f11 [(4, [(0, .slice), (1, .slice), (5, (.int .i64))])] (Go.Proofs.Try.f11.body.getD .skip) [.slice a_1p a_1l a_1c, .slice b_2p b_2l b_2c] k = F11 k a_1p a_1l a_1c b_2p b_2l b_2c := by kernel_rfl
theorem F11_calls {a_1p : Option Addr} {a_1l : Nat} {a_1c : Nat} {b_2p : Option Addr} {b_2l : Nat} {b_2c : Nat} {w : World} {R : Ending → World → Prop} (h : F11 (fun v w => R (.returned v) w) a_1p a_1l a_1c b_2p b_2l b_2c w) : Calls Go.Proofs.Try.prog 11 #[.slice a_1p a_1l a_1c, .slice b_2p b_2l b_2c] w R :=
  calls_of_compF noNum follows [(4, [(0, .slice), (1, .slice), (5, (.int .i64))])] (f := 11) (fn := Go.Proofs.Try.f11) (body := Go.Proofs.Try.f11.body.getD .skip) (args := [.slice a_1p a_1l a_1c, .slice b_2p b_2l b_2c]) rfl rfl (Nat.le_of_ble_eq_true rfl) ((congrFun (F11_eq _ a_1p a_1l a_1c b_2p b_2l b_2c) w).mpr h)
theorem F11_call {a_1p : Option Addr} {a_1l : Nat} {a_1c : Nat} {b_2p : Option Addr} {b_2l : Nat} {b_2c : Nat} {w : World} {g : Fn W (RTy.leaves (.s (.one .bool)))} (h : F11 (fun v => Back (.s (.one .bool)) g (.returned v)) a_1p a_1l a_1c b_2p b_2l b_2c w) : CallT Go.Proofs.Try.prog 11 [.slice a_1p a_1l a_1c, .slice b_2p b_2l b_2c] (.s (.one .bool)) g w := F11_calls h

/-! ## laws.deepFound -/
def F9_L2 (k : Value → W) (again12 : Int → Option Addr → Nat → Nat → Addr → Option Addr → Nat → Nat → Int → W) (again21 : Int → Option Addr → Nat → Nat → Addr → Option Addr → Nat → Nat → Int → Addr → Int → W) (dims_14 : Int) (calls_15p : Option Addr) (calls_15l : Nat) (calls_15c : Nat) (x_16 : Addr) (steps_17p : Option Addr) (steps_17l : Nat) (steps_17c : Nat) (i_18 : Int) (s_19 : Addr) (k_20 : Int) : W :=
 NN calls_15p fun a22 =>
 Req (0 ≤ i_18 ∧ i_18 < ((calls_15l : Nat) : Int)) <|
 LoadT .slice (a22.add i_18.toNat) fun s23p s23l s23c =>
 BIf (decide (k_20 < ((s23l : Nat) : Int))) (
  Drw <|
  LoadT .slice (s_19.add 1) fun s24p s24l s24c =>
  NN calls_15p fun a25 =>
  Req (0 ≤ i_18 ∧ i_18 < ((calls_15l : Nat) : Int)) <|
  LoadT .slice (a25.add i_18.toNat) fun s26p s26l s26c =>
  NN s26p fun a27 =>
  Req (0 ≤ k_20 ∧ k_20 < ((s26l : Nat) : Int)) <|
  LoadT .slice ((a27.add (k_20.toNat * 3)).add 0) fun s28p s28l s28c =>
  LoadT .slice ((a27.add (k_20.toNat * 3)).add 1) fun s29p s29l s29c =>
  LoadT (.int .u64) ((a27.add (k_20.toNat * 3)).add 2) fun x30 =>
  CallT Go.Proofs.Try.prog 6 [.agg #[.slice s28p s28l s28c, .slice s29p s29l s29c, .int .u64 x30]] (.s (.agg [.slice, .slice, (.int .u64)])) fun s31p s31l s31c s32p s32l s32c x33 =>
  Chk1 (a25.add i_18.toNat) (.slice s26p s26l s26c) <|
  Chk1 (s_19.add 1) (.slice s24p s24l s24c) <|
  RawT Go.Proofs.Try.prog (Instr.buildSlice 34 1 [(0, .agg #[.slice s31p s31l s31c, .slice s32p s32l s32c, .int .u64 x33])].toArray) (.s (.one .slice)) fun s34p s34l s34c =>
  Chk1 ((a27.add (k_20.toNat * 3)).add 0) (.slice s28p s28l s28c) <|
  Chk1 ((a27.add (k_20.toNat * 3)).add 1) (.slice s29p s29l s29c) <|
  Chk1 ((a27.add (k_20.toNat * 3)).add 2) (.int .u64 x30) <|
  Chk1 (a25.add i_18.toNat) (.slice s26p s26l s26c) <|
  Chk1 (s_19.add 1) (.slice s24p s24l s24c) <|
  NextT Go.Proofs.Try.prog (builtin .append #[34, 34] 34 [false, false].toArray [.slice s24p s24l s24c, .slice s34p s34l s34c].toArray) (.s (.one .slice)) fun s35p s35l s35c =>
  Chk1 ((a27.add (k_20.toNat * 3)).add 0) (.slice s28p s28l s28c) <|
  Chk1 ((a27.add (k_20.toNat * 3)).add 1) (.slice s29p s29l s29c) <|
  Chk1 ((a27.add (k_20.toNat * 3)).add 2) (.int .u64 x30) <|
  Chk1 (a25.add i_18.toNat) (.slice s26p s26l s26c) <|
  Store1 (s_19.add 1) (.slice s35p s35l s35c) <|
  again21 dims_14 calls_15p calls_15l calls_15c x_16 steps_17p steps_17l steps_17c i_18 s_19 (addI .i64 k_20 1)) (
  LoadT (.int .i64) (s_19.add 0) fun x36 =>
  LoadT .slice (s_19.add 1) fun s37p s37l s37c =>
  RawT Go.Proofs.Try.prog (Instr.buildSlice 39 1 [(0, .agg #[.int .i64 x36, .slice s37p s37l s37c])].toArray) (.s (.one .slice)) fun s38p s38l s38c =>
  NextT Go.Proofs.Try.prog (builtin .append #[39, 39] 39 [false, false].toArray [.slice steps_17p steps_17l steps_17c, .slice s38p s38l s38c].toArray) (.s (.one .slice)) fun s39p s39l s39c =>
  again12 dims_14 calls_15p calls_15l calls_15c x_16 s39p s39l s39c (addI .i64 i_18 1))
theorem F9_L2_rule {k : Value → W} {again12 : Int → Option Addr → Nat → Nat → Addr → Option Addr → Nat → Nat → Int → W} (I : Int → Option Addr → Nat → Nat → Addr → Option Addr → Nat → Nat → Int → Addr → Int → W) (μ : Int → Option Addr → Nat → Nat → Addr → Option Addr → Nat → Nat → Int → Addr → Int → World → Nat)
  (hr : ∀ (dims_14 : Int) (calls_15p : Option Addr) (calls_15l : Nat) (calls_15c : Nat) (x_16 : Addr) (steps_17p : Option Addr) (steps_17l : Nat) (steps_17c : Nat) (i_18 : Int) (s_19 : Addr) (k_20 : Int) (w : World), I dims_14 calls_15p calls_15l calls_15c x_16 steps_17p steps_17l steps_17c i_18 s_19 k_20 w → F9_L2 k again12 (fun dims_14' calls_15p' calls_15l' calls_15c' x_16' steps_17p' steps_17l' steps_17c' i_18' s_19' k_20' w' => I dims_14' calls_15p' calls_15l' calls_15c' x_16' steps_17p' steps_17l' steps_17c' i_18' s_19' k_20' w' ∧ μ dims_14' calls_15p' calls_15l' calls_15c' x_16' steps_17p' steps_17l' steps_17c' i_18' s_19' k_20' w' < μ dims_14 calls_15p calls_15l calls_15c x_16 steps_17p steps_17l steps_17c i_18 s_19 k_20 w) dims_14 calls_15p calls_15l calls_15c x_16 steps_17p steps_17l steps_17c i_18 s_19 k_20 w)
  {w : World} {dims_14 : Int} {calls_15p : Option Addr} {calls_15l : Nat} {calls_15c : Nat} {x_16 : Addr} {steps_17p : Option Addr} {steps_17l : Nat} {steps_17c : Nat} {i_18 : Int} {s_19 : Addr} {k_20 : Int} (h : I dims_14 calls_15p calls_15l calls_15c x_16 steps_17p steps_17l steps_17c i_18 s_19 k_20 w) : Loop [(.int .i64), .slice, .addr, .slice, (.int .i64), .addr, (.int .i64)] (F9_L2 k again12) dims_14 calls_15p calls_15l calls_15c x_16 steps_17p steps_17l steps_17c i_18 s_19 k_20 w :=
  Loop_intro (ts := [(.int .i64), .slice, .addr, .slice, (.int .i64), .addr, (.int .i64)]) (s := (dims_14, (calls_15p, calls_15l, calls_15c), x_16, (steps_17p, steps_17l, steps_17c), i_18, s_19, k_20, ())) (fun s w => I s.1 s.2.1.1 s.2.1.2.1 s.2.1.2.2 s.2.2.1 s.2.2.2.1.1 s.2.2.2.1.2.1 s.2.2.2.1.2.2 s.2.2.2.2.1 s.2.2.2.2.2.1 s.2.2.2.2.2.2.1 w) (fun s w => μ s.1 s.2.1.1 s.2.1.2.1 s.2.1.2.2 s.2.2.1 s.2.2.2.1.1 s.2.2.2.1.2.1 s.2.2.2.1.2.2 s.2.2.2.2.1 s.2.2.2.2.2.1 s.2.2.2.2.2.2.1 w) h (fun s w h => hr s.1 s.2.1.1 s.2.1.2.1 s.2.1.2.2 s.2.2.1 s.2.2.2.1.1 s.2.2.2.1.2.1 s.2.2.2.1.2.2 s.2.2.2.2.1 s.2.2.2.2.2.1 s.2.2.2.2.2.2.1 w h)
def F9_L3 (k : Value → W) (again53 : Option Addr → Nat → Nat → Option Addr → Nat → Nat → Int → W) (l_50p : Option Addr) (l_50l : Nat) (l_50c : Nat) (ids_51p : Option Addr) (ids_51l : Nat) (ids_51c : Nat) (i_52 : Int) : W :=
 NN l_50p fun a54 =>
 Req (0 ≤ subI .i64 ((l_50l : Nat) : Int) 2 ∧ subI .i64 ((l_50l : Nat) : Int) 2 < ((l_50l : Nat) : Int)) <|
 LoadT .slice (a54.add ((subI .i64 ((l_50l : Nat) : Int) 2).toNat * 2)) fun s55p s55l s55c =>
 BIf (decide (i_52 < ((s55l : Nat) : Int))) (
  NN l_50p fun a56 =>
  Req (0 ≤ subI .i64 ((l_50l : Nat) : Int) 2 ∧ subI .i64 ((l_50l : Nat) : Int) 2 < ((l_50l : Nat) : Int)) <|
  LoadT .slice (a56.add ((subI .i64 ((l_50l : Nat) : Int) 2).toNat * 2)) fun s57p s57l s57c =>
  NN s57p fun a58 =>
  Req (0 ≤ i_52 ∧ i_52 < ((s57l : Nat) : Int)) <|
  LoadT (.int .u64) ((a58.add (i_52.toNat * 3)).add 2) fun x59 =>
  RawT Go.Proofs.Try.prog (Instr.buildSlice 43 1 [(0, .int .u64 x59)].toArray) (.s (.one .slice)) fun s60p s60l s60c =>
  NextT Go.Proofs.Try.prog (builtin .append #[43, 43] 43 [false, false].toArray [.slice ids_51p ids_51l ids_51c, .slice s60p s60l s60c].toArray) (.s (.one .slice)) fun s61p s61l s61c =>
  again53 l_50p l_50l l_50c s61p s61l s61c (addI .i64 i_52 1)) (
  Drw <|
  NN l_50p fun a62 =>
  Req (0 ≤ subI .i64 ((l_50l : Nat) : Int) 1 ∧ subI .i64 ((l_50l : Nat) : Int) 1 < ((l_50l : Nat) : Int)) <|
  LoadT (.int .u64) ((a62.add ((subI .i64 ((l_50l : Nat) : Int) 1).toNat * 2)).add 1) fun x63 =>
  k (.tuple #[.slice ids_51p ids_51l ids_51c, .int .u64 x63, .bool true]))
theorem F9_L3_rule {k : Value → W} (I : Option Addr → Nat → Nat → Option Addr → Nat → Nat → Int → W) (μ : Option Addr → Nat → Nat → Option Addr → Nat → Nat → Int → World → Nat)
  (hr : ∀ (l_50p : Option Addr) (l_50l : Nat) (l_50c : Nat) (ids_51p : Option Addr) (ids_51l : Nat) (ids_51c : Nat) (i_52 : Int) (w : World), I l_50p l_50l l_50c ids_51p ids_51l ids_51c i_52 w → F9_L3 k (fun l_50p' l_50l' l_50c' ids_51p' ids_51l' ids_51c' i_52' w' => I l_50p' l_50l' l_50c' ids_51p' ids_51l' ids_51c' i_52' w' ∧ μ l_50p' l_50l' l_50c' ids_51p' ids_51l' ids_51c' i_52' w' < μ l_50p l_50l l_50c ids_51p ids_51l ids_51c i_52 w) l_50p l_50l l_50c ids_51p ids_51l ids_51c i_52 w)
  {w : World} {l_50p : Option Addr} {l_50l : Nat} {l_50c : Nat} {ids_51p : Option Addr} {ids_51l : Nat} {ids_51c : Nat} {i_52 : Int} (h : I l_50p l_50l l_50c ids_51p ids_51l ids_51c i_52 w) : Loop [.slice, .slice, (.int .i64)] (F9_L3 k) l_50p l_50l l_50c ids_51p ids_51l ids_51c i_52 w :=
  Loop_intro (ts := [.slice, .slice, (.int .i64)]) (s := ((l_50p, l_50l, l_50c), (ids_51p, ids_51l, ids_51c), i_52, ())) (fun s w => I s.1.1 s.1.2.1 s.1.2.2 s.2.1.1 s.2.1.2.1 s.2.1.2.2 s.2.2.1 w) (fun s w => μ s.1.1 s.1.2.1 s.1.2.2 s.2.1.1 s.2.1.2.1 s.2.1.2.2 s.2.2.1 w) h (fun s w h => hr s.1.1 s.1.2.1 s.1.2.2 s.2.1.1 s.2.1.2.1 s.2.1.2.2 s.2.2.1 w h)
def F9_L1 (k : Value → W) (again12 : Int → Option Addr → Nat → Nat → Addr → Option Addr → Nat → Nat → Int → W) (dims_7 : Int) (calls_8p : Option Addr) (calls_8l : Nat) (calls_8c : Nat) (x_9 : Addr) (steps_10p : Option Addr) (steps_10l : Nat) (steps_10c : Nat) (i_11 : Int) : W :=
 BIf (decide (i_11 < ((calls_8l : Nat) : Int))) (
  New [.int .i64 0, .slice none 0 0] 38 fun n13 =>
  Store1 ⟨n13, 0, none⟩ (.int .i64 1) <|
  Store1 ⟨n13, 1, none⟩ (.slice none 0 0) <|
  Loop [(.int .i64), .slice, .addr, .slice, (.int .i64), .addr, (.int .i64)] (F9_L2 k again12) dims_7 calls_8p calls_8l calls_8c x_9 steps_10p steps_10l steps_10c i_11 ⟨n13, 0, none⟩ 0) (
  LoadT .slice (x_9.add 0) fun s40p s40l s40c =>
  LoadT .slice (x_9.add 1) fun s41p s41l s41c =>
  LoadT (.int .u64) (x_9.add 2) fun x42 =>
  CallT Go.Proofs.Try.prog 6 [.agg #[.slice s40p s40l s40c, .slice s41p s41l s41c, .int .u64 x42]] (.s (.agg [.slice, .slice, (.int .u64)])) fun s43p s43l s43c s44p s44l s44c x45 =>
  RawT Go.Proofs.Try.prog (Instr.buildSlice 34 1 [(0, .agg #[.slice s43p s43l s43c, .slice s44p s44l s44c, .int .u64 x45])].toArray) (.s (.one .slice)) fun s46p s46l s46c =>
  RawT Go.Proofs.Try.prog (Instr.buildSlice 39 2 [(0, .agg #[.int .i64 3, .slice s46p s46l s46c]), (1, .agg #[.int .i64 4, .slice none 0 0])].toArray) (.s (.one .slice)) fun s47p s47l s47c =>
  NextT Go.Proofs.Try.prog (builtin .append #[39, 39] 39 [false, false].toArray [.slice steps_10p steps_10l steps_10c, .slice s47p s47l s47c].toArray) (.s (.one .slice)) fun s48p s48l s48c =>
  CallT Go.Proofs.Try.prog 8 [.int .u64 (IntKind.wrap .u64 dims_7), .slice s48p s48l s48c] (.s (.one .slice)) fun s49p s49l s49c =>
  BIf (((s49l : Nat) : Int) != ((s48l : Nat) : Int)) (
   k (.tuple #[.slice none 0 0, .int .u64 0, .bool false])) (
   Loop [.slice, .slice, (.int .i64)] (F9_L3 k) s49p s49l s49c none 0 0 0))
theorem F9_L1_rule {k : Value → W} (I : Int → Option Addr → Nat → Nat → Addr → Option Addr → Nat → Nat → Int → W) (μ : Int → Option Addr → Nat → Nat → Addr → Option Addr → Nat → Nat → Int → World → Nat)
  (hr : ∀ (dims_7 : Int) (calls_8p : Option Addr) (calls_8l : Nat) (calls_8c : Nat) (x_9 : Addr) (steps_10p : Option Addr) (steps_10l : Nat) (steps_10c : Nat) (i_11 : Int) (w : World), I dims_7 calls_8p calls_8l calls_8c x_9 steps_10p steps_10l steps_10c i_11 w → F9_L1 k (fun dims_7' calls_8p' calls_8l' calls_8c' x_9' steps_10p' steps_10l' steps_10c' i_11' w' => I dims_7' calls_8p' calls_8l' calls_8c' x_9' steps_10p' steps_10l' steps_10c' i_11' w' ∧ μ dims_7' calls_8p' calls_8l' calls_8c' x_9' steps_10p' steps_10l' steps_10c' i_11' w' < μ dims_7 calls_8p calls_8l calls_8c x_9 steps_10p steps_10l steps_10c i_11 w) dims_7 calls_8p calls_8l calls_8c x_9 steps_10p steps_10l steps_10c i_11 w)
  {w : World} {dims_7 : Int} {calls_8p : Option Addr} {calls_8l : Nat} {calls_8c : Nat} {x_9 : Addr} {steps_10p : Option Addr} {steps_10l : Nat} {steps_10c : Nat} {i_11 : Int} (h : I dims_7 calls_8p calls_8l calls_8c x_9 steps_10p steps_10l steps_10c i_11 w) : Loop [(.int .i64), .slice, .addr, .slice, (.int .i64)] (F9_L1 k) dims_7 calls_8p calls_8l calls_8c x_9 steps_10p steps_10l steps_10c i_11 w :=
  Loop_intro (ts := [(.int .i64), .slice, .addr, .slice, (.int .i64)]) (s := (dims_7, (calls_8p, calls_8l, calls_8c), x_9, (steps_10p, steps_10l, steps_10c), i_11, ())) (fun s w => I s.1 s.2.1.1 s.2.1.2.1 s.2.1.2.2 s.2.2.1 s.2.2.2.1.1 s.2.2.2.1.2.1 s.2.2.2.1.2.2 s.2.2.2.2.1 w) (fun s w => μ s.1 s.2.1.1 s.2.1.2.1 s.2.1.2.2 s.2.2.1 s.2.2.2.1.1 s.2.2.2.1.2.1 s.2.2.2.1.2.2 s.2.2.2.2.1 w) h (fun s w h => hr s.1 s.2.1.1 s.2.1.2.1 s.2.1.2.2 s.2.2.1 s.2.2.2.1.1 s.2.2.2.1.2.1 s.2.2.2.1.2.2 s.2.2.2.2.1 w h)
def F9 (k : Value → W) (dims_1 : Int) (calls_2p : Option Addr) (calls_2l : Nat) (calls_2c : Nat) (s3p : Option Addr) (s3l : Nat) (s3c : Nat) (s4p : Option Addr) (s4l : Nat) (s4c : Nat) (x5 : Int) : W :=
 New [.slice s3p s3l s3c, .slice s4p s4l s4c, .int .u64 x5] 32 fun n6 =>
 Loop [(.int .i64), .slice, .addr, .slice, (.int .i64)] (F9_L1 k) dims_1 calls_2p calls_2l calls_2c ⟨n6, 0, none⟩ none 0 0 0
theorem F9_eq (k : Value → W) (dims_1 : Int) (calls_2p : Option Addr) (calls_2l : Nat) (calls_2c : Nat) (s3p : Option Addr) (s3l : Nat) (s3c : Nat) (s4p : Option Addr) (s4l : Nat) (s4c : Nat) (x5 : Int) : compF Go.Proofs.Try.prog Go.Proofs.Try.f9 [(3, [(0, (.int .i64)), (1, .slice), (5, .addr), (9, .slice), (10, (.int .i64))]), (7, [(0, (.int .i64)), (1, .slice), (5, .addr), (9, .slice), (10, (.int .i64)), (11, .addr), (12, (.int .i64))]), (17, [(13, .slice), (14, .slice), (15, (.int .i64))])] (Go.Proofs.Try.f9.body.getD .skip) [.int .i64 dims_1, .slice calls_2p calls_2l calls_2c, .agg #[.slice s3p s3l s3c, .slice s4p s4l s4c, .int .u64 x5]] k = F9 k dims_1 calls_2p calls_2l calls_2c s3p s3l s3c s4p s4l s4c x5 := by kernel_rfl
theorem F9_calls {dims_1 : Int} {calls_2p : Option Addr} {calls_2l : Nat} {calls_2c : Nat} {s3p : Option Addr} {s3l : Nat} {s3c : Nat} {s4p : Option Addr} {s4l : Nat} {s4c : Nat} {x5 : Int} {w : World} {R : Ending → World → Prop} (h : F9 (fun v w => R (.returned v) w) dims_1 calls_2p calls_2l calls_2c s3p s3l s3c s4p s4l s4c x5 w) : Calls Go.Proofs.Try.prog 9 #[.int .i64 dims_1, .slice calls_2p calls_2l calls_2c, .agg #[.slice s3p s3l s3c, .slice s4p s4l s4c, .int .u64 x5]] w R :=
  calls_of_compF noNum follows [(3, [(0, (.int .i64)), (1, .slice), (5, .addr), (9, .slice), (10, (.int .i64))]), (7, [(0, (.int .i64)), (1, .slice), (5, .addr), (9, .slice), (10, (.int .i64)), (11, .addr), (12, (.int .i64))]), (17, [(13, .slice), (14, .slice), (15, (.int .i64))])] (f := 9) (fn := Go.Proofs.Try.f9) (body := Go.Proofs.Try.f9.body.getD .skip) (args := [.int .i64 dims_1, .slice calls_2p calls_2l calls_2c, .agg #[.slice s3p s3l s3c, .slice s4p s4l s4c, .int .u64 x5]]) rfl rfl (Nat.le_of_ble_eq_true rfl) ((congrFun (F9_eq _ dims_1 calls_2p calls_2l calls_2c s3p s3l s3c s4p s4l s4c x5) w).mpr h)
theorem F9_call {dims_1 : Int} {calls_2p : Option Addr} {calls_2l : Nat} {calls_2c : Nat} {s3p : Option Addr} {s3l : Nat} {s3c : Nat} {s4p : Option Addr} {s4l : Nat} {s4c : Nat} {x5 : Int} {w : World} {g : Fn W (RTy.leaves (.tup [(.one .slice), (.one (.int .u64)), (.one .bool)]))} (h : F9 (fun v => Back (.tup [(.one .slice), (.one (.int .u64)), (.one .bool)]) g (.returned v)) dims_1 calls_2p calls_2l calls_2c s3p s3l s3c s4p s4l s4c x5 w) : CallT Go.Proofs.Try.prog 9 [.int .i64 dims_1, .slice calls_2p calls_2l calls_2c, .agg #[.slice s3p s3l s3c, .slice s4p s4l s4c, .int .u64 x5]] (.tup [(.one .slice), (.one (.int .u64)), (.one .bool)]) g w := F9_calls h

/-! ## laws.FnATOrder -/
def F4 (k : Value → W) (dims_1 : Int) (moves_2p : Option Addr) (moves_2l : Nat) (moves_2c : Nat) (x3 : Int) (x4 : Int) (x5 : Int) (x6 : Int) (x7 : Int) (x8 : Int) (x9 : Int) (x10 : Int) : W :=
 New [.int .i8 x3, .int .i8 x4, .int .i8 x5, .int .i8 x6, .int .i8 x7, .int .i8 x8, .int .i8 x9, .int .i8 x10] 24 fun n11 =>
 BIf (decide (((moves_2l : Nat) : Int) > 2147483647)) (
  k (.bool true)) (
  Req (3 ≠ (0 : Int)) <|
  Bind (addI .i64 1 (remI (IntKind.wrap .i64 dims_1) 3) : Int) fun n_12 =>
  CallT Go.Proofs.Try.prog 5 [.int .i64 n_12, .slice moves_2p moves_2l moves_2c] (.s (.one .slice)) fun s13p s13l s13c =>
  BIf (((s13l : Nat) : Int) == 0) (
   k (.bool true)) (
   LoadT (.int .i8) ⟨n11, 0, none⟩ fun x14 =>
   LoadT (.int .i8) ⟨n11, 1, none⟩ fun x15 =>
   LoadT (.int .i8) ⟨n11, 2, none⟩ fun x16 =>
   LoadT (.int .i8) ⟨n11, 3, none⟩ fun x17 =>
   LoadT (.int .i8) ⟨n11, 4, none⟩ fun x18 =>
   LoadT (.int .i8) ⟨n11, 5, none⟩ fun x19 =>
   LoadT (.int .i8) ⟨n11, 6, none⟩ fun x20 =>
   LoadT (.int .i8) ⟨n11, 7, none⟩ fun x21 =>
   CallT Go.Proofs.Try.prog 7 [.int .i64 n_12, .agg #[.int .i8 x14, .int .i8 x15, .int .i8 x16, .int .i8 x17, .int .i8 x18, .int .i8 x19, .int .i8 x20, .int .i8 x21], .bool false, .int .u64 0] (.s (.agg [.slice, .slice, (.int .u64)])) fun s22p s22l s22c s23p s23l s23c x24 =>
   New [.slice none 0 0, .slice none 0 0, .int .u64 0] 32 fun n25 =>
   Store1 ⟨n25, 0, none⟩ (.slice s22p s22l s22c) <|
   Store1 ⟨n25, 1, none⟩ (.slice s23p s23l s23c) <|
   Store1 ⟨n25, 2, none⟩ (.int .u64 x24) <|
   RawT Go.Proofs.Try.prog (Instr.buildSlice 46 1 [(0, .slice s13p s13l s13c)].toArray) (.s (.one .slice)) fun s26p s26l s26c =>
   LoadT .slice ⟨n25, 0, none⟩ fun s27p s27l s27c =>
   LoadT .slice ⟨n25, 1, none⟩ fun s28p s28l s28c =>
   LoadT (.int .u64) ⟨n25, 2, none⟩ fun x29 =>
   CallT Go.Proofs.Try.prog 9 [.int .i64 n_12, .slice s26p s26l s26c, .agg #[.slice s27p s27l s27c, .slice s28p s28l s28c, .int .u64 x29]] (.tup [(.one .slice), (.one (.int .u64)), (.one .bool)]) fun s30p s30l s30c x31 b32 =>
   Drw <|
   LoadT .slice ⟨n25, 0, none⟩ fun s33p s33l s33c =>
   LoadT .slice ⟨n25, 1, none⟩ fun s34p s34l s34c =>
   LoadT (.int .u64) ⟨n25, 2, none⟩ fun x35 =>
   CallT Go.Proofs.Try.prog 10 [.slice s13p s13l s13c, .bool false] (.s (.one .slice)) fun s36p s36l s36c =>
   Chk1 ⟨n25, 0, none⟩ (.slice s33p s33l s33c) <|
   Chk1 ⟨n25, 1, none⟩ (.slice s34p s34l s34c) <|
   Chk1 ⟨n25, 2, none⟩ (.int .u64 x35) <|
   CallT Go.Proofs.Try.prog 9 [.int .i64 n_12, .slice s36p s36l s36c, .agg #[.slice s33p s33l s33c, .slice s34p s34l s34c, .int .u64 x35]] (.tup [(.one .slice), (.one (.int .u64)), (.one .bool)]) fun s37p s37l s37c x38 b39 =>
   Drw <|
   LoadT .slice ⟨n25, 0, none⟩ fun s40p s40l s40c =>
   LoadT .slice ⟨n25, 1, none⟩ fun s41p s41l s41c =>
   LoadT (.int .u64) ⟨n25, 2, none⟩ fun x42 =>
   CallT Go.Proofs.Try.prog 10 [.slice s13p s13l s13c, .bool true] (.s (.one .slice)) fun s43p s43l s43c =>
   Chk1 ⟨n25, 0, none⟩ (.slice s40p s40l s40c) <|
   Chk1 ⟨n25, 1, none⟩ (.slice s41p s41l s41c) <|
   Chk1 ⟨n25, 2, none⟩ (.int .u64 x42) <|
   CallT Go.Proofs.Try.prog 9 [.int .i64 n_12, .slice s43p s43l s43c, .agg #[.slice s40p s40l s40c, .slice s41p s41l s41c, .int .u64 x42]] (.tup [(.one .slice), (.one (.int .u64)), (.one .bool)]) fun s44p s44l s44c x45 b46 =>
   BIf b32 (
    BIf b39 (
     BIf b46 (
      BIf (x31 == (IntKind.wrap .u64 ((s13l : Nat) : Int))) (
       BIf (x38 == x31) (
        BIf (x45 == x31) (
         CallT Go.Proofs.Try.prog 11 [.slice s30p s30l s30c, .slice s37p s37l s37c] (.s (.one .bool)) fun b47 =>
         BIf b47 (
          CallT Go.Proofs.Try.prog 11 [.slice s30p s30l s30c, .slice s44p s44l s44c] (.s (.one .bool)) fun b48 =>
          k (.bool b48)) (
          k (.bool false))) (
         k (.bool false))) (
        k (.bool false))) (
       k (.bool false))) (
      k (.bool false))) (
     k (.bool false))) (
    k (.bool false))))
theorem F4_eq (k : Value → W) (dims_1 : Int) (moves_2p : Option Addr) (moves_2l : Nat) (moves_2c : Nat) (x3 : Int) (x4 : Int) (x5 : Int) (x6 : Int) (x7 : Int) (x8 : Int) (x9 : Int) (x10 : Int) : compF Go.Proofs.Try.prog Go.Proofs.Try.f4 [] (Go.Proofs.Try.f4.body.getD .skip) [.int .u8 dims_1, .slice moves_2p moves_2l moves_2c, .agg #[.int .i8 x3, .int .i8 x4, .int .i8 x5, .int .i8 x6, .int .i8 x7, .int .i8 x8, .int .i8 x9, .int .i8 x10]] k = F4 k dims_1 moves_2p moves_2l moves_2c x3 x4 x5 x6 x7 x8 x9 x10 := by kernel_rfl
theorem F4_calls {dims_1 : Int} {moves_2p : Option Addr} {moves_2l : Nat} {moves_2c : Nat} {x3 : Int} {x4 : Int} {x5 : Int} {x6 : Int} {x7 : Int} {x8 : Int} {x9 : Int} {x10 : Int} {w : World} {R : Ending → World → Prop} (h : F4 (fun v w => R (.returned v) w) dims_1 moves_2p moves_2l moves_2c x3 x4 x5 x6 x7 x8 x9 x10 w) : Calls Go.Proofs.Try.prog 4 #[.int .u8 dims_1, .slice moves_2p moves_2l moves_2c, .agg #[.int .i8 x3, .int .i8 x4, .int .i8 x5, .int .i8 x6, .int .i8 x7, .int .i8 x8, .int .i8 x9, .int .i8 x10]] w R :=
  calls_of_compF noNum follows [] (f := 4) (fn := Go.Proofs.Try.f4) (body := Go.Proofs.Try.f4.body.getD .skip) (args := [.int .u8 dims_1, .slice moves_2p moves_2l moves_2c, .agg #[.int .i8 x3, .int .i8 x4, .int .i8 x5, .int .i8 x6, .int .i8 x7, .int .i8 x8, .int .i8 x9, .int .i8 x10]]) rfl rfl (Nat.le_of_ble_eq_true rfl) ((congrFun (F4_eq _ dims_1 moves_2p moves_2l moves_2c x3 x4 x5 x6 x7 x8 x9 x10) w).mpr h)
theorem F4_call {dims_1 : Int} {moves_2p : Option Addr} {moves_2l : Nat} {moves_2c : Nat} {x3 : Int} {x4 : Int} {x5 : Int} {x6 : Int} {x7 : Int} {x8 : Int} {x9 : Int} {x10 : Int} {w : World} {g : Fn W (RTy.leaves (.s (.one .bool)))} (h : F4 (fun v => Back (.s (.one .bool)) g (.returned v)) dims_1 moves_2p moves_2l moves_2c x3 x4 x5 x6 x7 x8 x9 x10 w) : CallT Go.Proofs.Try.prog 4 [.int .u8 dims_1, .slice moves_2p moves_2l moves_2c, .agg #[.int .i8 x3, .int .i8 x4, .int .i8 x5, .int .i8 x6, .int .i8 x7, .int .i8 x8, .int .i8 x9, .int .i8 x10]] (.s (.one .bool)) g w := F4_calls h

/-! ## laws.FnATBack -/
def F3_L2 (k : Value → W) (again77 : Option Addr → Nat → Nat → Int → W) (a_75p : Option Addr) (a_75l : Nat) (a_75c : Nat) (i_76 : Int) : W :=
 NN a_75p fun a78 =>
 Req (0 ≤ (1 : Int) ∧ (1 : Int) < ((a_75l : Nat) : Int)) <|
 LoadT .slice (a78.add ((1 : Int).toNat * 2)) fun s79p s79l s79c =>
 BIf (decide (i_76 < ((s79l : Nat) : Int))) (
  Drw <|
  NN a_75p fun a80 =>
  Req (0 ≤ (1 : Int) ∧ (1 : Int) < ((a_75l : Nat) : Int)) <|
  LoadT .slice (a80.add ((1 : Int).toNat * 2)) fun s81p s81l s81c =>
  NN s81p fun a82 =>
  Req (0 ≤ i_76 ∧ i_76 < ((s81l : Nat) : Int)) <|
  LoadT (.int .u64) ((a82.add (i_76.toNat * 3)).add 2) fun x83 =>
  NN a_75p fun a84 =>
  Req (0 ≤ (5 : Int) ∧ (5 : Int) < ((a_75l : Nat) : Int)) <|
  LoadT .slice (a84.add ((5 : Int).toNat * 2)) fun s85p s85l s85c =>
  NN s85p fun a86 =>
  Req (0 ≤ i_76 ∧ i_76 < ((s85l : Nat) : Int)) <|
  LoadT (.int .u64) ((a86.add (i_76.toNat * 3)).add 2) fun x87 =>
  BIf (x83 != x87) (
   k (.bool false)) (
   again77 a_75p a_75l a_75c (addI .i64 i_76 1))) (
  k (.bool true))
theorem F3_L2_rule {k : Value → W} (I : Option Addr → Nat → Nat → Int → W) (μ : Option Addr → Nat → Nat → Int → World → Nat)
  (hr : ∀ (a_75p : Option Addr) (a_75l : Nat) (a_75c : Nat) (i_76 : Int) (w : World), I a_75p a_75l a_75c i_76 w → F3_L2 k (fun a_75p' a_75l' a_75c' i_76' w' => I a_75p' a_75l' a_75c' i_76' w' ∧ μ a_75p' a_75l' a_75c' i_76' w' < μ a_75p a_75l a_75c i_76 w) a_75p a_75l a_75c i_76 w)
  {w : World} {a_75p : Option Addr} {a_75l : Nat} {a_75c : Nat} {i_76 : Int} (h : I a_75p a_75l a_75c i_76 w) : Loop [.slice, (.int .i64)] (F3_L2 k) a_75p a_75l a_75c i_76 w :=
  Loop_intro (ts := [.slice, (.int .i64)]) (s := ((a_75p, a_75l, a_75c), i_76, ())) (fun s w => I s.1.1 s.1.2.1 s.1.2.2 s.2.1 w) (fun s w => μ s.1.1 s.1.2.1 s.1.2.2 s.2.1 w) h (fun s w h => hr s.1.1 s.1.2.1 s.1.2.2 s.2.1 w h)
def F3_L1 (k : Value → W) (again38 : Int → Option Addr → Nat → Nat → Addr → Int → Option Addr → Nat → Nat → Option Addr → Nat → Nat → Int → W) (n_31 : Int) (l_32p : Option Addr) (l_32l : Nat) (l_32c : Nat) (x_33 : Addr) (k_34 : Int) (all_35p : Option Addr) (all_35l : Nat) (all_35c : Nat) (part_36p : Option Addr) (part_36l : Nat) (part_36c : Nat) (i_37 : Int) : W :=
 BIf (decide (i_37 < ((l_32l : Nat) : Int))) (
  NN l_32p fun a39 =>
  Req (0 ≤ i_37 ∧ i_37 < ((l_32l : Nat) : Int)) <|
  LoadT .slice ((a39.add (i_37.toNat * 3)).add 0) fun s40p s40l s40c =>
  LoadT .slice ((a39.add (i_37.toNat * 3)).add 1) fun s41p s41l s41c =>
  LoadT (.int .u64) ((a39.add (i_37.toNat * 3)).add 2) fun x42 =>
  CallT Go.Proofs.Try.prog 6 [.agg #[.slice s40p s40l s40c, .slice s41p s41l s41c, .int .u64 x42]] (.s (.agg [.slice, .slice, (.int .u64)])) fun s43p s43l s43c s44p s44l s44c x45 =>
  RawT Go.Proofs.Try.prog (Instr.buildSlice 34 1 [(0, .agg #[.slice s43p s43l s43c, .slice s44p s44l s44c, .int .u64 x45])].toArray) (.s (.one .slice)) fun s46p s46l s46c =>
  NextT Go.Proofs.Try.prog (builtin .append #[34, 34] 34 [false, false].toArray [.slice all_35p all_35l all_35c, .slice s46p s46l s46c].toArray) (.s (.one .slice)) fun s47p s47l s47c =>
  BIf (decide (i_37 < k_34)) (
   NN l_32p fun a48 =>
   Req (0 ≤ i_37 ∧ i_37 < ((l_32l : Nat) : Int)) <|
   LoadT .slice ((a48.add (i_37.toNat * 3)).add 0) fun s49p s49l s49c =>
   LoadT .slice ((a48.add (i_37.toNat * 3)).add 1) fun s50p s50l s50c =>
   LoadT (.int .u64) ((a48.add (i_37.toNat * 3)).add 2) fun x51 =>
   CallT Go.Proofs.Try.prog 6 [.agg #[.slice s49p s49l s49c, .slice s50p s50l s50c, .int .u64 x51]] (.s (.agg [.slice, .slice, (.int .u64)])) fun s52p s52l s52c s53p s53l s53c x54 =>
   RawT Go.Proofs.Try.prog (Instr.buildSlice 34 1 [(0, .agg #[.slice s52p s52l s52c, .slice s53p s53l s53c, .int .u64 x54])].toArray) (.s (.one .slice)) fun s55p s55l s55c =>
   NextT Go.Proofs.Try.prog (builtin .append #[34, 34] 34 [false, false].toArray [.slice part_36p part_36l part_36c, .slice s55p s55l s55c].toArray) (.s (.one .slice)) fun s56p s56l s56c =>
   again38 n_31 l_32p l_32l l_32c x_33 k_34 s47p s47l s47c s56p s56l s56c (addI .i64 i_37 1)) (
   again38 n_31 l_32p l_32l l_32c x_33 k_34 s47p s47l s47c part_36p part_36l part_36c (addI .i64 i_37 1))) (
  LoadT .slice (x_33.add 0) fun s57p s57l s57c =>
  LoadT .slice (x_33.add 1) fun s58p s58l s58c =>
  LoadT (.int .u64) (x_33.add 2) fun x59 =>
  RawT Go.Proofs.Try.prog (Instr.buildSlice 34 1 [(0, .agg #[.slice s57p s57l s57c, .slice s58p s58l s58c, .int .u64 x59])].toArray) (.s (.one .slice)) fun s60p s60l s60c =>
  LoadT .slice (x_33.add 0) fun s61p s61l s61c =>
  LoadT .slice (x_33.add 1) fun s62p s62l s62c =>
  LoadT (.int .u64) (x_33.add 2) fun x63 =>
  RawT Go.Proofs.Try.prog (Instr.buildSlice 34 1 [(0, .agg #[.slice s61p s61l s61c, .slice s62p s62l s62c, .int .u64 x63])].toArray) (.s (.one .slice)) fun s64p s64l s64c =>
  RawT Go.Proofs.Try.prog (Instr.buildSlice 39 7 [(0, .agg #[.int .i64 1, .slice all_35p all_35l all_35c]), (1, .agg #[.int .i64 3, .slice s60p s60l s60c]), (2, .agg #[.int .i64 2, .slice part_36p part_36l part_36c]), (3, .agg #[.int .i64 4, .slice none 0 0]), (4, .agg #[.int .i64 1, .slice part_36p part_36l part_36c]), (5, .agg #[.int .i64 3, .slice s64p s64l s64c]), (6, .agg #[.int .i64 4, .slice none 0 0])].toArray) (.s (.one .slice)) fun s65p s65l s65c =>
  CallT Go.Proofs.Try.prog 8 [.int .u64 (IntKind.wrap .u64 n_31), .slice s65p s65l s65c] (.s (.one .slice)) fun s66p s66l s66c =>
  Drw <|
  BIf (((s66l : Nat) : Int) != 7) (
   k (.bool false)) (
   NN s66p fun a67 =>
   Req (0 ≤ (3 : Int) ∧ (3 : Int) < ((s66l : Nat) : Int)) <|
   LoadT (.int .u64) ((a67.add ((3 : Int).toNat * 2)).add 1) fun x68 =>
   BIf (x68 != (IntKind.wrap .u64 (subI .i64 ((l_32l : Nat) : Int) k_34))) (
    k (.bool false)) (
    NN s66p fun a69 =>
    Req (0 ≤ (6 : Int) ∧ (6 : Int) < ((s66l : Nat) : Int)) <|
    LoadT (.int .u64) ((a69.add ((6 : Int).toNat * 2)).add 1) fun x70 =>
    BIf (x70 != (IntKind.wrap .u64 ((l_32l : Nat) : Int))) (
     k (.bool false)) (
     NN s66p fun a71 =>
     Req (0 ≤ (1 : Int) ∧ (1 : Int) < ((s66l : Nat) : Int)) <|
     LoadT .slice (a71.add ((1 : Int).toNat * 2)) fun s72p s72l s72c =>
     NN s66p fun a73 =>
     Req (0 ≤ (5 : Int) ∧ (5 : Int) < ((s66l : Nat) : Int)) <|
     LoadT .slice (a73.add ((5 : Int).toNat * 2)) fun s74p s74l s74c =>
     BIf (((s72l : Nat) : Int) != ((s74l : Nat) : Int)) (
      k (.bool false)) (
      Loop [.slice, (.int .i64)] (F3_L2 k) s66p s66l s66c 0)))))
theorem F3_L1_rule {k : Value → W} (I : Int → Option Addr → Nat → Nat → Addr → Int → Option Addr → Nat → Nat → Option Addr → Nat → Nat → Int → W) (μ : Int → Option Addr → Nat → Nat → Addr → Int → Option Addr → Nat → Nat → Option Addr → Nat → Nat → Int → World → Nat)
  (hr : ∀ (n_31 : Int) (l_32p : Option Addr) (l_32l : Nat) (l_32c : Nat) (x_33 : Addr) (k_34 : Int) (all_35p : Option Addr) (all_35l : Nat) (all_35c : Nat) (part_36p : Option Addr) (part_36l : Nat) (part_36c : Nat) (i_37 : Int) (w : World), I n_31 l_32p l_32l l_32c x_33 k_34 all_35p all_35l all_35c part_36p part_36l part_36c i_37 w → F3_L1 k (fun n_31' l_32p' l_32l' l_32c' x_33' k_34' all_35p' all_35l' all_35c' part_36p' part_36l' part_36c' i_37' w' => I n_31' l_32p' l_32l' l_32c' x_33' k_34' all_35p' all_35l' all_35c' part_36p' part_36l' part_36c' i_37' w' ∧ μ n_31' l_32p' l_32l' l_32c' x_33' k_34' all_35p' all_35l' all_35c' part_36p' part_36l' part_36c' i_37' w' < μ n_31 l_32p l_32l l_32c x_33 k_34 all_35p all_35l all_35c part_36p part_36l part_36c i_37 w) n_31 l_32p l_32l l_32c x_33 k_34 all_35p all_35l all_35c part_36p part_36l part_36c i_37 w)
  {w : World} {n_31 : Int} {l_32p : Option Addr} {l_32l : Nat} {l_32c : Nat} {x_33 : Addr} {k_34 : Int} {all_35p : Option Addr} {all_35l : Nat} {all_35c : Nat} {part_36p : Option Addr} {part_36l : Nat} {part_36c : Nat} {i_37 : Int} (h : I n_31 l_32p l_32l l_32c x_33 k_34 all_35p all_35l all_35c part_36p part_36l part_36c i_37 w) : Loop [(.int .i64), .slice, .addr, (.int .i64), .slice, .slice, (.int .i64)] (F3_L1 k) n_31 l_32p l_32l l_32c x_33 k_34 all_35p all_35l all_35c part_36p part_36l part_36c i_37 w :=
  Loop_intro (ts := [(.int .i64), .slice, .addr, (.int .i64), .slice, .slice, (.int .i64)]) (s := (n_31, (l_32p, l_32l, l_32c), x_33, k_34, (all_35p, all_35l, all_35c), (part_36p, part_36l, part_36c), i_37, ())) (fun s w => I s.1 s.2.1.1 s.2.1.2.1 s.2.1.2.2 s.2.2.1 s.2.2.2.1 s.2.2.2.2.1.1 s.2.2.2.2.1.2.1 s.2.2.2.2.1.2.2 s.2.2.2.2.2.1.1 s.2.2.2.2.2.1.2.1 s.2.2.2.2.2.1.2.2 s.2.2.2.2.2.2.1 w) (fun s w => μ s.1 s.2.1.1 s.2.1.2.1 s.2.1.2.2 s.2.2.1 s.2.2.2.1 s.2.2.2.2.1.1 s.2.2.2.2.1.2.1 s.2.2.2.2.1.2.2 s.2.2.2.2.2.1.1 s.2.2.2.2.2.1.2.1 s.2.2.2.2.2.1.2.2 s.2.2.2.2.2.2.1 w) h (fun s w h => hr s.1 s.2.1.1 s.2.1.2.1 s.2.1.2.2 s.2.2.1 s.2.2.2.1 s.2.2.2.2.1.1 s.2.2.2.2.1.2.1 s.2.2.2.2.1.2.2 s.2.2.2.2.2.1.1 s.2.2.2.2.2.1.2.1 s.2.2.2.2.2.1.2.2 s.2.2.2.2.2.2.1 w h)
def F3 (k : Value → W) (dims_1 : Int) (moves_2p : Option Addr) (moves_2l : Nat) (moves_2c : Nat) (some_3 : Int) (x4 : Int) (x5 : Int) (x6 : Int) (x7 : Int) (x8 : Int) (x9 : Int) (x10 : Int) (x11 : Int) : W :=
 New [.int .i8 x4, .int .i8 x5, .int .i8 x6, .int .i8 x7, .int .i8 x8, .int .i8 x9, .int .i8 x10, .int .i8 x11] 24 fun n12 =>
 BIf (decide (((moves_2l : Nat) : Int) > 2147483647)) (
  k (.bool true)) (
  Req (3 ≠ (0 : Int)) <|
  Bind (addI .i64 1 (remI (IntKind.wrap .i64 dims_1) 3) : Int) fun n_13 =>
  CallT Go.Proofs.Try.prog 5 [.int .i64 n_13, .slice moves_2p moves_2l moves_2c] (.s (.one .slice)) fun s14p s14l s14c =>
  BIf (decide (((s14l : Nat) : Int) < 2)) (
   k (.bool true)) (
   LoadT (.int .i8) ⟨n12, 0, none⟩ fun x15 =>
   LoadT (.int .i8) ⟨n12, 1, none⟩ fun x16 =>
   LoadT (.int .i8) ⟨n12, 2, none⟩ fun x17 =>
   LoadT (.int .i8) ⟨n12, 3, none⟩ fun x18 =>
   LoadT (.int .i8) ⟨n12, 4, none⟩ fun x19 =>
   LoadT (.int .i8) ⟨n12, 5, none⟩ fun x20 =>
   LoadT (.int .i8) ⟨n12, 6, none⟩ fun x21 =>
   LoadT (.int .i8) ⟨n12, 7, none⟩ fun x22 =>
   CallT Go.Proofs.Try.prog 7 [.int .i64 n_13, .agg #[.int .i8 x15, .int .i8 x16, .int .i8 x17, .int .i8 x18, .int .i8 x19, .int .i8 x20, .int .i8 x21, .int .i8 x22], .bool false, .int .u64 0] (.s (.agg [.slice, .slice, (.int .u64)])) fun s23p s23l s23c s24p s24l s24c x25 =>
   CallT Go.Proofs.Try.prog 6 [.agg #[.slice s23p s23l s23c, .slice s24p s24l s24c, .int .u64 x25]] (.s (.agg [.slice, .slice, (.int .u64)])) fun s26p s26l s26c s27p s27l s27c x28 =>
   New [.slice none 0 0, .slice none 0 0, .int .u64 0] 30 fun n29 =>
   Store1 ⟨n29, 0, none⟩ (.slice s26p s26l s26c) <|
   Store1 ⟨n29, 1, none⟩ (.slice s27p s27l s27c) <|
   Store1 ⟨n29, 2, none⟩ (.int .u64 x28) <|
   Req (subI .i64 ((s14l : Nat) : Int) 1 ≠ (0 : Int)) <|
   Bind (addI .i64 1 (remI (IntKind.wrap .i64 some_3) (subI .i64 ((s14l : Nat) : Int) 1)) : Int) fun k_30 =>
   Loop [(.int .i64), .slice, .addr, (.int .i64), .slice, .slice, (.int .i64)] (F3_L1 k) n_13 s14p s14l s14c ⟨n29, 0, none⟩ k_30 none 0 0 none 0 0 0))
theorem F3_eq (k : Value → W) (dims_1 : Int) (moves_2p : Option Addr) (moves_2l : Nat) (moves_2c : Nat) (some_3 : Int) (x4 : Int) (x5 : Int) (x6 : Int) (x7 : Int) (x8 : Int) (x9 : Int) (x10 : Int) (x11 : Int) : compF Go.Proofs.Try.prog Go.Proofs.Try.f3 [(11, [(9, (.int .i64)), (10, .slice), (11, .addr), (12, (.int .i64)), (13, .slice), (14, .slice), (15, (.int .i64))]), (20, [(16, .slice), (17, (.int .i64))])] (Go.Proofs.Try.f3.body.getD .skip) [.int .u8 dims_1, .slice moves_2p moves_2l moves_2c, .int .u8 some_3, .agg #[.int .i8 x4, .int .i8 x5, .int .i8 x6, .int .i8 x7, .int .i8 x8, .int .i8 x9, .int .i8 x10, .int .i8 x11]] k = F3 k dims_1 moves_2p moves_2l moves_2c some_3 x4 x5 x6 x7 x8 x9 x10 x11 := by kernel_rfl
theorem F3_calls {dims_1 : Int} {moves_2p : Option Addr} {moves_2l : Nat} {moves_2c : Nat} {some_3 : Int} {x4 : Int} {x5 : Int} {x6 : Int} {x7 : Int} {x8 : Int} {x9 : Int} {x10 : Int} {x11 : Int} {w : World} {R : Ending → World → Prop} (h : F3 (fun v w => R (.returned v) w) dims_1 moves_2p moves_2l moves_2c some_3 x4 x5 x6 x7 x8 x9 x10 x11 w) : Calls Go.Proofs.Try.prog 3 #[.int .u8 dims_1, .slice moves_2p moves_2l moves_2c, .int .u8 some_3, .agg #[.int .i8 x4, .int .i8 x5, .int .i8 x6, .int .i8 x7, .int .i8 x8, .int .i8 x9, .int .i8 x10, .int .i8 x11]] w R :=
  calls_of_compF noNum follows [(11, [(9, (.int .i64)), (10, .slice), (11, .addr), (12, (.int .i64)), (13, .slice), (14, .slice), (15, (.int .i64))]), (20, [(16, .slice), (17, (.int .i64))])] (f := 3) (fn := Go.Proofs.Try.f3) (body := Go.Proofs.Try.f3.body.getD .skip) (args := [.int .u8 dims_1, .slice moves_2p moves_2l moves_2c, .int .u8 some_3, .agg #[.int .i8 x4, .int .i8 x5, .int .i8 x6, .int .i8 x7, .int .i8 x8, .int .i8 x9, .int .i8 x10, .int .i8 x11]]) rfl rfl (Nat.le_of_ble_eq_true rfl) ((congrFun (F3_eq _ dims_1 moves_2p moves_2l moves_2c some_3 x4 x5 x6 x7 x8 x9 x10 x11) w).mpr h)
theorem F3_call {dims_1 : Int} {moves_2p : Option Addr} {moves_2l : Nat} {moves_2c : Nat} {some_3 : Int} {x4 : Int} {x5 : Int} {x6 : Int} {x7 : Int} {x8 : Int} {x9 : Int} {x10 : Int} {x11 : Int} {w : World} {g : Fn W (RTy.leaves (.s (.one .bool)))} (h : F3 (fun v => Back (.s (.one .bool)) g (.returned v)) dims_1 moves_2p moves_2l moves_2c some_3 x4 x5 x6 x7 x8 x9 x10 x11 w) : CallT Go.Proofs.Try.prog 3 [.int .u8 dims_1, .slice moves_2p moves_2l moves_2c, .int .u8 some_3, .agg #[.int .i8 x4, .int .i8 x5, .int .i8 x6, .int .i8 x7, .int .i8 x8, .int .i8 x9, .int .i8 x10, .int .i8 x11]] (.s (.one .bool)) g w := F3_calls h

end Go.Proofs.Ythapmkjmfkmnoaa.E
