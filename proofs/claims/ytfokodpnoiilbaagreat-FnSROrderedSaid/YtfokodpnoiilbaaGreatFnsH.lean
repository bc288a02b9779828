/-
  Printed by this session's own program eng.py out of Lean's print of the loaded functions: what each function's body asks, in the engine's words; each is checked against the program by the kernel.
-/
import Derived.Test.YtfokodpnoiilbaaGreatEng
import Derived.Test.YtfokodpnoiilbaaGreatFnsA
namespace Go.Proofs.YtfokodpnoiilbaaGreat.E
open Go
set_option linter.unusedVariables false
set_option maxRecDepth 100000
/-! ## rangetree.newOrderedTree -/
def F23 (k : Value → W) (dimensions_1 : Int) : W :=
 RawT Go.Proofs.Tryz.prog (Instr.makeSlice 93 (.int .i64 0) (.int .u64 dimensions_1)) (.s (.one .slice)) fun s2p s2l s2c =>
 New [.slice none 0 0, .int .u64 0, .int .u64 dimensions_1, .slice s2p s2l s2c] 97 fun n3 =>
 k (.pointer (some ⟨n3, 0, none⟩))
theorem F23_eq (k : Value → W) (dimensions_1 : Int) : compF Go.Proofs.Tryz.prog Go.Proofs.Tryz.f23 [] (Go.Proofs.Tryz.f23.body.getD .skip) [.int .u64 dimensions_1] k = F23 k dimensions_1 := by kernel_rfl
theorem F23_calls {dimensions_1 : Int} {w : World} {R : Ending → World → Prop} (h : F23 (fun v w => R (.returned v) w) dimensions_1 w) : Calls Go.Proofs.Tryz.prog 23 #[.int .u64 dimensions_1] w R :=
  calls_of_compF noNum follows [] (f := 23) (fn := Go.Proofs.Tryz.f23) (body := Go.Proofs.Tryz.f23.body.getD .skip) (args := [.int .u64 dimensions_1]) rfl rfl (Nat.le_of_ble_eq_true rfl) ((congrFun (F23_eq _ dimensions_1) w).mpr h)
theorem F23_call {dimensions_1 : Int} {w : World} {g : Fn W (RTy.leaves (.s (.one .ptr)))} (h : F23 (fun v => Back (.s (.one .ptr)) g (.returned v)) dimensions_1 w) : CallT Go.Proofs.Tryz.prog 23 [.int .u64 dimensions_1] (.s (.one .ptr)) g w := F23_calls h

/-! ## rangetree.New -/
def F17 (k : Value → W) (dimensions_1 : Int) : W :=
 CallT Go.Proofs.Tryz.prog 23 [.int .u64 dimensions_1] (.s (.one .ptr)) fun p2 =>
 k (.iface 81 (.pointer p2))
theorem F17_eq (k : Value → W) (dimensions_1 : Int) : compF Go.Proofs.Tryz.prog Go.Proofs.Tryz.f17 [] (Go.Proofs.Tryz.f17.body.getD .skip) [.int .u64 dimensions_1] k = F17 k dimensions_1 := by kernel_rfl
theorem F17_calls {dimensions_1 : Int} {w : World} {R : Ending → World → Prop} (h : F17 (fun v w => R (.returned v) w) dimensions_1 w) : Calls Go.Proofs.Tryz.prog 17 #[.int .u64 dimensions_1] w R :=
  calls_of_compF noNum follows [] (f := 17) (fn := Go.Proofs.Tryz.f17) (body := Go.Proofs.Tryz.f17.body.getD .skip) (args := [.int .u64 dimensions_1]) rfl rfl (Nat.le_of_ble_eq_true rfl) ((congrFun (F17_eq _ dimensions_1) w).mpr h)
theorem F17_call {dimensions_1 : Int} {w : World} {g : Fn W (RTy.leaves (.s (.one .any)))} (h : F17 (fun v => Back (.s (.one .any)) g (.returned v)) dimensions_1 w) : CallT Go.Proofs.Tryz.prog 17 [.int .u64 dimensions_1] (.s (.one .any)) g w := F17_calls h

/-! ## impl.dot).ValueAtDimension -/
def F116 (k : Value → W) (s1p : Option Addr) (s1l : Nat) (s1c : Nat) (x2 : Int) (d_3 : Int) : W :=
 New [.slice s1p s1l s1c, .int .i64 x2] 89 fun n4 =>
 LoadT .slice ⟨n4, 0, none⟩ fun s5p s5l s5c =>
 CallT Go.Proofs.Tryz.prog 84 [.slice s5p s5l s5c, .int .u64 d_3] (.s (.one (.int .i64))) fun x6 =>
 k (.int .i64 x6)
theorem F116_eq (k : Value → W) (s1p : Option Addr) (s1l : Nat) (s1c : Nat) (x2 : Int) (d_3 : Int) : compF Go.Proofs.Tryz.prog Go.Proofs.Tryz.f116 [] (Go.Proofs.Tryz.f116.body.getD .skip) [.agg #[.slice s1p s1l s1c, .int .i64 x2], .int .u64 d_3] k = F116 k s1p s1l s1c x2 d_3 := by kernel_rfl
theorem F116_calls {s1p : Option Addr} {s1l : Nat} {s1c : Nat} {x2 : Int} {d_3 : Int} {w : World} {R : Ending → World → Prop} (h : F116 (fun v w => R (.returned v) w) s1p s1l s1c x2 d_3 w) : Calls Go.Proofs.Tryz.prog 116 #[.agg #[.slice s1p s1l s1c, .int .i64 x2], .int .u64 d_3] w R :=
  calls_of_compF noNum follows [] (f := 116) (fn := Go.Proofs.Tryz.f116) (body := Go.Proofs.Tryz.f116.body.getD .skip) (args := [.agg #[.slice s1p s1l s1c, .int .i64 x2], .int .u64 d_3]) rfl rfl (Nat.le_of_ble_eq_true rfl) ((congrFun (F116_eq _ s1p s1l s1c x2 d_3) w).mpr h)
theorem F116_call {s1p : Option Addr} {s1l : Nat} {s1c : Nat} {x2 : Int} {d_3 : Int} {w : World} {g : Fn W (RTy.leaves (.s (.one (.int .i64))))} (h : F116 (fun v => Back (.s (.one (.int .i64))) g (.returned v)) s1p s1l s1c x2 d_3 w) : CallT Go.Proofs.Tryz.prog 116 [.agg #[.slice s1p s1l s1c, .int .i64 x2], .int .u64 d_3] (.s (.one (.int .i64))) g w := F116_calls h

/-! ## impl.span).LowAtDimension -/
def F83 (k : Value → W) (s1p : Option Addr) (s1l : Nat) (s1c : Nat) (s2p : Option Addr) (s2l : Nat) (s2c : Nat) (x3 : Int) (d_4 : Int) : W :=
 New [.slice s1p s1l s1c, .slice s2p s2l s2c, .int .u64 x3] 65 fun n5 =>
 LoadT .slice ⟨n5, 0, none⟩ fun s6p s6l s6c =>
 CallT Go.Proofs.Tryz.prog 84 [.slice s6p s6l s6c, .int .u64 d_4] (.s (.one (.int .i64))) fun x7 =>
 k (.int .i64 x7)
theorem F83_eq (k : Value → W) (s1p : Option Addr) (s1l : Nat) (s1c : Nat) (s2p : Option Addr) (s2l : Nat) (s2c : Nat) (x3 : Int) (d_4 : Int) : compF Go.Proofs.Tryz.prog Go.Proofs.Tryz.f83 [] (Go.Proofs.Tryz.f83.body.getD .skip) [.agg #[.slice s1p s1l s1c, .slice s2p s2l s2c, .int .u64 x3], .int .u64 d_4] k = F83 k s1p s1l s1c s2p s2l s2c x3 d_4 := by kernel_rfl
theorem F83_calls {s1p : Option Addr} {s1l : Nat} {s1c : Nat} {s2p : Option Addr} {s2l : Nat} {s2c : Nat} {x3 : Int} {d_4 : Int} {w : World} {R : Ending → World → Prop} (h : F83 (fun v w => R (.returned v) w) s1p s1l s1c s2p s2l s2c x3 d_4 w) : Calls Go.Proofs.Tryz.prog 83 #[.agg #[.slice s1p s1l s1c, .slice s2p s2l s2c, .int .u64 x3], .int .u64 d_4] w R :=
  calls_of_compF noNum follows [] (f := 83) (fn := Go.Proofs.Tryz.f83) (body := Go.Proofs.Tryz.f83.body.getD .skip) (args := [.agg #[.slice s1p s1l s1c, .slice s2p s2l s2c, .int .u64 x3], .int .u64 d_4]) rfl rfl (Nat.le_of_ble_eq_true rfl) ((congrFun (F83_eq _ s1p s1l s1c s2p s2l s2c x3 d_4) w).mpr h)
theorem F83_call {s1p : Option Addr} {s1l : Nat} {s1c : Nat} {s2p : Option Addr} {s2l : Nat} {s2c : Nat} {x3 : Int} {d_4 : Int} {w : World} {g : Fn W (RTy.leaves (.s (.one (.int .i64))))} (h : F83 (fun v => Back (.s (.one (.int .i64))) g (.returned v)) s1p s1l s1c s2p s2l s2c x3 d_4 w) : CallT Go.Proofs.Tryz.prog 83 [.agg #[.slice s1p s1l s1c, .slice s2p s2l s2c, .int .u64 x3], .int .u64 d_4] (.s (.one (.int .i64))) g w := F83_calls h

/-! ## impl.span).HighAtDimension -/
def F81 (k : Value → W) (s1p : Option Addr) (s1l : Nat) (s1c : Nat) (s2p : Option Addr) (s2l : Nat) (s2c : Nat) (x3 : Int) (d_4 : Int) : W :=
 New [.slice s1p s1l s1c, .slice s2p s2l s2c, .int .u64 x3] 65 fun n5 =>
 LoadT .slice ⟨n5, 1, none⟩ fun s6p s6l s6c =>
 CallT Go.Proofs.Tryz.prog 84 [.slice s6p s6l s6c, .int .u64 d_4] (.s (.one (.int .i64))) fun x7 =>
 k (.int .i64 x7)
theorem F81_eq (k : Value → W) (s1p : Option Addr) (s1l : Nat) (s1c : Nat) (s2p : Option Addr) (s2l : Nat) (s2c : Nat) (x3 : Int) (d_4 : Int) : compF Go.Proofs.Tryz.prog Go.Proofs.Tryz.f81 [] (Go.Proofs.Tryz.f81.body.getD .skip) [.agg #[.slice s1p s1l s1c, .slice s2p s2l s2c, .int .u64 x3], .int .u64 d_4] k = F81 k s1p s1l s1c s2p s2l s2c x3 d_4 := by kernel_rfl
theorem F81_calls {s1p : Option Addr} {s1l : Nat} {s1c : Nat} {s2p : Option Addr} {s2l : Nat} {s2c : Nat} {x3 : Int} {d_4 : Int} {w : World} {R : Ending → World → Prop} (h : F81 (fun v w => R (.returned v) w) s1p s1l s1c s2p s2l s2c x3 d_4 w) : Calls Go.Proofs.Tryz.prog 81 #[.agg #[.slice s1p s1l s1c, .slice s2p s2l s2c, .int .u64 x3], .int .u64 d_4] w R :=
  calls_of_compF noNum follows [] (f := 81) (fn := Go.Proofs.Tryz.f81) (body := Go.Proofs.Tryz.f81.body.getD .skip) (args := [.agg #[.slice s1p s1l s1c, .slice s2p s2l s2c, .int .u64 x3], .int .u64 d_4]) rfl rfl (Nat.le_of_ble_eq_true rfl) ((congrFun (F81_eq _ s1p s1l s1c s2p s2l s2c x3 d_4) w).mpr h)
theorem F81_call {s1p : Option Addr} {s1l : Nat} {s1c : Nat} {s2p : Option Addr} {s2l : Nat} {s2c : Nat} {x3 : Int} {d_4 : Int} {w : World} {g : Fn W (RTy.leaves (.s (.one (.int .i64))))} (h : F81 (fun v => Back (.s (.one (.int .i64))) g (.returned v)) s1p s1l s1c s2p s2l s2c x3 d_4 w) : CallT Go.Proofs.Tryz.prog 81 [.agg #[.slice s1p s1l s1c, .slice s2p s2l s2c, .int .u64 x3], .int .u64 d_4] (.s (.one (.int .i64))) g w := F81_calls h

/-! ## impl.dots -/
def F25_L1 (k : Value → W) (again6 : Option Addr → Nat → Nat → Option Addr → Nat → Nat → Int → Int → W) (out_2p : Option Addr) (out_2l : Nat) (out_2c : Nat) (s3p : Option Addr) (s3l : Nat) (s3c : Nat) (x4 : Int) (x5 : Int) : W :=
 BIf (decide (x5 < x4)) (
  NN s3p fun a7 =>
  Req (0 ≤ x5 ∧ x5 < ((s3l : Nat) : Int)) <|
  LoadT .slice ((a7.add (x5.toNat * 2)).add 0) fun s8p s8l s8c =>
  LoadT (.int .i64) ((a7.add (x5.toNat * 2)).add 1) fun x9 =>
  New [.slice none 0 0, .int .i64 0] 42 fun n10 =>
  Store1 ⟨n10, 0, none⟩ (.slice s8p s8l s8c) <|
  Store1 ⟨n10, 1, none⟩ (.int .i64 x9) <|
  LoadT .slice ⟨n10, 0, none⟩ fun s11p s11l s11c =>
  LoadT (.int .i64) ⟨n10, 1, none⟩ fun x12 =>
  RawT Go.Proofs.Tryz.prog (Instr.buildSlice 69 1 [(0, .iface 89 (.agg #[.slice s11p s11l s11c, .int .i64 x12]))].toArray) (.s (.one .slice)) fun s13p s13l s13c =>
  NextT Go.Proofs.Tryz.prog (builtin .append #[69, 69] 69 [false, false].toArray [.slice out_2p out_2l out_2c, .slice s13p s13l s13c].toArray) (.s (.one .slice)) fun s14p s14l s14c =>
  again6 s14p s14l s14c s3p s3l s3c x4 (addI .i64 x5 1)) (
  k (.slice out_2p out_2l out_2c))
theorem F25_L1_rule {k : Value → W} (I : Option Addr → Nat → Nat → Option Addr → Nat → Nat → Int → Int → W) (μ : Option Addr → Nat → Nat → Option Addr → Nat → Nat → Int → Int → World → Nat)
  (hr : ∀ (out_2p : Option Addr) (out_2l : Nat) (out_2c : Nat) (s3p : Option Addr) (s3l : Nat) (s3c : Nat) (x4 : Int) (x5 : Int) (w : World), I out_2p out_2l out_2c s3p s3l s3c x4 x5 w → F25_L1 k (fun out_2p' out_2l' out_2c' s3p' s3l' s3c' x4' x5' w' => I out_2p' out_2l' out_2c' s3p' s3l' s3c' x4' x5' w' ∧ μ out_2p' out_2l' out_2c' s3p' s3l' s3c' x4' x5' w' < μ out_2p out_2l out_2c s3p s3l s3c x4 x5 w) out_2p out_2l out_2c s3p s3l s3c x4 x5 w)
  {w : World} {out_2p : Option Addr} {out_2l : Nat} {out_2c : Nat} {s3p : Option Addr} {s3l : Nat} {s3c : Nat} {x4 : Int} {x5 : Int} (h : I out_2p out_2l out_2c s3p s3l s3c x4 x5 w) : Loop [.slice, .slice, (.int .i64), (.int .i64)] (F25_L1 k) out_2p out_2l out_2c s3p s3l s3c x4 x5 w :=
  Loop_intro (ts := [.slice, .slice, (.int .i64), (.int .i64)]) (s := ((out_2p, out_2l, out_2c), (s3p, s3l, s3c), x4, x5, ())) (fun s w => I s.1.1 s.1.2.1 s.1.2.2 s.2.1.1 s.2.1.2.1 s.2.1.2.2 s.2.2.1 s.2.2.2.1 w) (fun s w => μ s.1.1 s.1.2.1 s.1.2.2 s.2.1.1 s.2.1.2.1 s.2.1.2.2 s.2.2.1 s.2.2.2.1 w) h (fun s w h => hr s.1.1 s.1.2.1 s.1.2.2 s.2.1.1 s.2.1.2.1 s.2.1.2.2 s.2.2.1 s.2.2.2.1 w h)
def F25 (k : Value → W) (l_1p : Option Addr) (l_1l : Nat) (l_1c : Nat) : W :=
 Loop [.slice, .slice, (.int .i64), (.int .i64)] (F25_L1 k) none 0 0 l_1p l_1l l_1c ((l_1l : Nat) : Int) 0
theorem F25_eq (k : Value → W) (l_1p : Option Addr) (l_1l : Nat) (l_1c : Nat) : compF Go.Proofs.Tryz.prog Go.Proofs.Tryz.f25 [(3, [(3, .slice), (6, .slice), (7, (.int .i64)), (8, (.int .i64))])] (Go.Proofs.Tryz.f25.body.getD .skip) [.slice l_1p l_1l l_1c] k = F25 k l_1p l_1l l_1c := by kernel_rfl
theorem F25_calls {l_1p : Option Addr} {l_1l : Nat} {l_1c : Nat} {w : World} {R : Ending → World → Prop} (h : F25 (fun v w => R (.returned v) w) l_1p l_1l l_1c w) : Calls Go.Proofs.Tryz.prog 25 #[.slice l_1p l_1l l_1c] w R :=
  calls_of_compF noNum follows [(3, [(3, .slice), (6, .slice), (7, (.int .i64)), (8, (.int .i64))])] (f := 25) (fn := Go.Proofs.Tryz.f25) (body := Go.Proofs.Tryz.f25.body.getD .skip) (args := [.slice l_1p l_1l l_1c]) rfl rfl (Nat.le_of_ble_eq_true rfl) ((congrFun (F25_eq _ l_1p l_1l l_1c) w).mpr h)
theorem F25_call {l_1p : Option Addr} {l_1l : Nat} {l_1c : Nat} {w : World} {g : Fn W (RTy.leaves (.s (.one .slice)))} (h : F25 (fun v => Back (.s (.one .slice)) g (.returned v)) l_1p l_1l l_1c w) : CallT Go.Proofs.Tryz.prog 25 [.slice l_1p l_1l l_1c] (.s (.one .slice)) g w := F25_calls h

/-! ## impl.tellDots -/
def F30_L1 (k : Value → W) (again7 : Option Addr → Nat → Nat → Option Addr → Nat → Nat → Option Addr → Nat → Nat → Int → Int → W) (out_2p : Option Addr) (out_2l : Nat) (out_2c : Nat) (have_3p : Option Addr) (have_3l : Nat) (have_3c : Nat) (s4p : Option Addr) (s4l : Nat) (s4c : Nat) (x5 : Int) (x6 : Int) : W :=
 BIf (decide (x6 < x5)) (
  NN s4p fun a8 =>
  Req (0 ≤ x6 ∧ x6 < ((s4l : Nat) : Int)) <|
  LoadT .any (a8.add x6.toNat) fun v9 =>
  RawS Go.Proofs.Tryz.prog (Instr.typeAssert v9 76 89 true) (.tup [(.agg [.slice, (.int .i64)]), (.one .bool)]) fun s10p s10l s10c x11 b12 =>
  New [.slice none 0 0, .int .i64 0] 89 fun n13 =>
  Store1 ⟨n13, 0, none⟩ (.slice s10p s10l s10c) <|
  Store1 ⟨n13, 1, none⟩ (.int .i64 x11) <|
  LoadT .slice ⟨n13, 0, none⟩ fun s14p s14l s14c =>
  LoadT (.int .i64) ⟨n13, 1, none⟩ fun x15 =>
  RawT Go.Proofs.Tryz.prog (Instr.buildSlice 27 1 [(0, .agg #[.slice s14p s14l s14c, .int .i64 x15])].toArray) (.s (.one .slice)) fun s16p s16l s16c =>
  NextT Go.Proofs.Tryz.prog (builtin .append #[27, 27] 27 [false, false].toArray [.slice out_2p out_2l out_2c, .slice s16p s16l s16c].toArray) (.s (.one .slice)) fun s17p s17l s17c =>
  RawT Go.Proofs.Tryz.prog (Instr.buildSlice 36 1 [(0, .bool b12)].toArray) (.s (.one .slice)) fun s18p s18l s18c =>
  NextT Go.Proofs.Tryz.prog (builtin .append #[36, 36] 36 [false, false].toArray [.slice have_3p have_3l have_3c, .slice s18p s18l s18c].toArray) (.s (.one .slice)) fun s19p s19l s19c =>
  again7 s17p s17l s17c s19p s19l s19c s4p s4l s4c x5 (addI .i64 x6 1)) (
  k (.tuple #[.slice out_2p out_2l out_2c, .slice have_3p have_3l have_3c]))
theorem F30_L1_rule {k : Value → W} (I : Option Addr → Nat → Nat → Option Addr → Nat → Nat → Option Addr → Nat → Nat → Int → Int → W) (μ : Option Addr → Nat → Nat → Option Addr → Nat → Nat → Option Addr → Nat → Nat → Int → Int → World → Nat)
  (hr : ∀ (out_2p : Option Addr) (out_2l : Nat) (out_2c : Nat) (have_3p : Option Addr) (have_3l : Nat) (have_3c : Nat) (s4p : Option Addr) (s4l : Nat) (s4c : Nat) (x5 : Int) (x6 : Int) (w : World), I out_2p out_2l out_2c have_3p have_3l have_3c s4p s4l s4c x5 x6 w → F30_L1 k (fun out_2p' out_2l' out_2c' have_3p' have_3l' have_3c' s4p' s4l' s4c' x5' x6' w' => I out_2p' out_2l' out_2c' have_3p' have_3l' have_3c' s4p' s4l' s4c' x5' x6' w' ∧ μ out_2p' out_2l' out_2c' have_3p' have_3l' have_3c' s4p' s4l' s4c' x5' x6' w' < μ out_2p out_2l out_2c have_3p have_3l have_3c s4p s4l s4c x5 x6 w) out_2p out_2l out_2c have_3p have_3l have_3c s4p s4l s4c x5 x6 w)
  {w : World} {out_2p : Option Addr} {out_2l : Nat} {out_2c : Nat} {have_3p : Option Addr} {have_3l : Nat} {have_3c : Nat} {s4p : Option Addr} {s4l : Nat} {s4c : Nat} {x5 : Int} {x6 : Int} (h : I out_2p out_2l out_2c have_3p have_3l have_3c s4p s4l s4c x5 x6 w) : Loop [.slice, .slice, .slice, (.int .i64), (.int .i64)] (F30_L1 k) out_2p out_2l out_2c have_3p have_3l have_3c s4p s4l s4c x5 x6 w :=
  Loop_intro (ts := [.slice, .slice, .slice, (.int .i64), (.int .i64)]) (s := ((out_2p, out_2l, out_2c), (have_3p, have_3l, have_3c), (s4p, s4l, s4c), x5, x6, ())) (fun s w => I s.1.1 s.1.2.1 s.1.2.2 s.2.1.1 s.2.1.2.1 s.2.1.2.2 s.2.2.1.1 s.2.2.1.2.1 s.2.2.1.2.2 s.2.2.2.1 s.2.2.2.2.1 w) (fun s w => μ s.1.1 s.1.2.1 s.1.2.2 s.2.1.1 s.2.1.2.1 s.2.1.2.2 s.2.2.1.1 s.2.2.1.2.1 s.2.2.1.2.2 s.2.2.2.1 s.2.2.2.2.1 w) h (fun s w h => hr s.1.1 s.1.2.1 s.1.2.2 s.2.1.1 s.2.1.2.1 s.2.1.2.2 s.2.2.1.1 s.2.2.1.2.1 s.2.2.1.2.2 s.2.2.2.1 s.2.2.2.2.1 w h)
def F30 (k : Value → W) (l_1p : Option Addr) (l_1l : Nat) (l_1c : Nat) : W :=
 Loop [.slice, .slice, .slice, (.int .i64), (.int .i64)] (F30_L1 k) none 0 0 none 0 0 l_1p l_1l l_1c ((l_1l : Nat) : Int) 0
theorem F30_eq (k : Value → W) (l_1p : Option Addr) (l_1l : Nat) (l_1c : Nat) : compF Go.Proofs.Tryz.prog Go.Proofs.Tryz.f30 [(4, [(4, .slice), (5, .slice), (10, .slice), (11, (.int .i64)), (12, (.int .i64))])] (Go.Proofs.Tryz.f30.body.getD .skip) [.slice l_1p l_1l l_1c] k = F30 k l_1p l_1l l_1c := by kernel_rfl
theorem F30_calls {l_1p : Option Addr} {l_1l : Nat} {l_1c : Nat} {w : World} {R : Ending → World → Prop} (h : F30 (fun v w => R (.returned v) w) l_1p l_1l l_1c w) : Calls Go.Proofs.Tryz.prog 30 #[.slice l_1p l_1l l_1c] w R :=
  calls_of_compF noNum follows [(4, [(4, .slice), (5, .slice), (10, .slice), (11, (.int .i64)), (12, (.int .i64))])] (f := 30) (fn := Go.Proofs.Tryz.f30) (body := Go.Proofs.Tryz.f30.body.getD .skip) (args := [.slice l_1p l_1l l_1c]) rfl rfl (Nat.le_of_ble_eq_true rfl) ((congrFun (F30_eq _ l_1p l_1l l_1c) w).mpr h)
theorem F30_call {l_1p : Option Addr} {l_1l : Nat} {l_1c : Nat} {w : World} {g : Fn W (RTy.leaves (.tup [(.one .slice), (.one .slice)]))} (h : F30 (fun v => Back (.tup [(.one .slice), (.one .slice)]) g (.returned v)) l_1p l_1l l_1c w) : CallT Go.Proofs.Tryz.prog 30 [.slice l_1p l_1l l_1c] (.tup [(.one .slice), (.one .slice)]) g w := F30_calls h

/-! ## impl.answerDots -/
def F24 (k : Value → W) (l_1p : Option Addr) (l_1l : Nat) (l_1c : Nat) : W :=
 New [.slice none 0 0, .slice none 0 0, .slice none 0 0, .int .u64 0] 38 fun n2 =>
 New [.slice none 0 0, .slice none 0 0, .slice none 0 0, .int .u64 0] 38 fun n3 =>
 CallT Go.Proofs.Tryz.prog 30 [.slice l_1p l_1l l_1c] (.tup [(.one .slice), (.one .slice)]) fun s4p s4l s4c s5p s5l s5c =>
 Store1 ⟨n3, 0, none⟩ (.slice s4p s4l s4c) <|
 Store1 ⟨n3, 1, none⟩ (.slice s5p s5l s5c) <|
 LoadT .slice ⟨n3, 0, none⟩ fun s6p s6l s6c =>
 LoadT .slice ⟨n3, 1, none⟩ fun s7p s7l s7c =>
 LoadT .slice ⟨n3, 2, none⟩ fun s8p s8l s8c =>
 LoadT (.int .u64) ⟨n3, 3, none⟩ fun x9 =>
 Store1 ⟨n2, 0, none⟩ (.slice s6p s6l s6c) <|
 Store1 ⟨n2, 1, none⟩ (.slice s7p s7l s7c) <|
 Store1 ⟨n2, 2, none⟩ (.slice s8p s8l s8c) <|
 Store1 ⟨n2, 3, none⟩ (.int .u64 x9) <|
 LoadT .slice ⟨n2, 0, none⟩ fun s10p s10l s10c =>
 LoadT .slice ⟨n2, 1, none⟩ fun s11p s11l s11c =>
 LoadT .slice ⟨n2, 2, none⟩ fun s12p s12l s12c =>
 LoadT (.int .u64) ⟨n2, 3, none⟩ fun x13 =>
 k (.agg #[.slice s10p s10l s10c, .slice s11p s11l s11c, .slice s12p s12l s12c, .int .u64 x13])
theorem F24_eq (k : Value → W) (l_1p : Option Addr) (l_1l : Nat) (l_1c : Nat) : compF Go.Proofs.Tryz.prog Go.Proofs.Tryz.f24 [] (Go.Proofs.Tryz.f24.body.getD .skip) [.slice l_1p l_1l l_1c] k = F24 k l_1p l_1l l_1c := by kernel_rfl
theorem F24_calls {l_1p : Option Addr} {l_1l : Nat} {l_1c : Nat} {w : World} {R : Ending → World → Prop} (h : F24 (fun v w => R (.returned v) w) l_1p l_1l l_1c w) : Calls Go.Proofs.Tryz.prog 24 #[.slice l_1p l_1l l_1c] w R :=
  calls_of_compF noNum follows [] (f := 24) (fn := Go.Proofs.Tryz.f24) (body := Go.Proofs.Tryz.f24.body.getD .skip) (args := [.slice l_1p l_1l l_1c]) rfl rfl (Nat.le_of_ble_eq_true rfl) ((congrFun (F24_eq _ l_1p l_1l l_1c) w).mpr h)
theorem F24_call {l_1p : Option Addr} {l_1l : Nat} {l_1c : Nat} {w : World} {g : Fn W (RTy.leaves (.s (.agg [.slice, .slice, .slice, (.int .u64)])))} (h : F24 (fun v => Back (.s (.agg [.slice, .slice, .slice, (.int .u64)])) g (.returned v)) l_1p l_1l l_1c w) : CallT Go.Proofs.Tryz.prog 24 [.slice l_1p l_1l l_1c] (.s (.agg [.slice, .slice, .slice, (.int .u64)])) g w := F24_calls h

/-! ## impl.between -/
def F26 (k : Value → W) (x1 : Int) (x2 : Int) (s3p : Option Addr) (s3l : Nat) (s3c : Nat) (s4p : Option Addr) (s4l : Nat) (s4c : Nat) (s5p : Option Addr) (s5l : Nat) (s5c : Nat) (x6 : Int) (x7 : Int) (x8 : Int) (x9 : Int) : W :=
 New [.int .i64 x1, .int .i64 x2, .slice s3p s3l s3c, .slice s4p s4l s4c, .slice s5p s5l s5c, .int .u64 x6, .int .i64 x7, .int .i64 x8, .int .i64 x9] 31 fun n10 =>
 LoadT .slice ⟨n10, 3, none⟩ fun s11p s11l s11c =>
 LoadT .slice ⟨n10, 4, none⟩ fun s12p s12l s12c =>
 k (.iface 65 (.agg #[.slice s11p s11l s11c, .slice s12p s12l s12c, .int .u64 0]))
theorem F26_eq (k : Value → W) (x1 : Int) (x2 : Int) (s3p : Option Addr) (s3l : Nat) (s3c : Nat) (s4p : Option Addr) (s4l : Nat) (s4c : Nat) (s5p : Option Addr) (s5l : Nat) (s5c : Nat) (x6 : Int) (x7 : Int) (x8 : Int) (x9 : Int) : compF Go.Proofs.Tryz.prog Go.Proofs.Tryz.f26 [] (Go.Proofs.Tryz.f26.body.getD .skip) [.agg #[.int .i64 x1, .int .i64 x2, .slice s3p s3l s3c, .slice s4p s4l s4c, .slice s5p s5l s5c, .int .u64 x6, .int .i64 x7, .int .i64 x8, .int .i64 x9]] k = F26 k x1 x2 s3p s3l s3c s4p s4l s4c s5p s5l s5c x6 x7 x8 x9 := by kernel_rfl
theorem F26_calls {x1 : Int} {x2 : Int} {s3p : Option Addr} {s3l : Nat} {s3c : Nat} {s4p : Option Addr} {s4l : Nat} {s4c : Nat} {s5p : Option Addr} {s5l : Nat} {s5c : Nat} {x6 : Int} {x7 : Int} {x8 : Int} {x9 : Int} {w : World} {R : Ending → World → Prop} (h : F26 (fun v w => R (.returned v) w) x1 x2 s3p s3l s3c s4p s4l s4c s5p s5l s5c x6 x7 x8 x9 w) : Calls Go.Proofs.Tryz.prog 26 #[.agg #[.int .i64 x1, .int .i64 x2, .slice s3p s3l s3c, .slice s4p s4l s4c, .slice s5p s5l s5c, .int .u64 x6, .int .i64 x7, .int .i64 x8, .int .i64 x9]] w R :=
  calls_of_compF noNum follows [] (f := 26) (fn := Go.Proofs.Tryz.f26) (body := Go.Proofs.Tryz.f26.body.getD .skip) (args := [.agg #[.int .i64 x1, .int .i64 x2, .slice s3p s3l s3c, .slice s4p s4l s4c, .slice s5p s5l s5c, .int .u64 x6, .int .i64 x7, .int .i64 x8, .int .i64 x9]]) rfl rfl (Nat.le_of_ble_eq_true rfl) ((congrFun (F26_eq _ x1 x2 s3p s3l s3c s4p s4l s4c s5p s5l s5c x6 x7 x8 x9) w).mpr h)
theorem F26_call {x1 : Int} {x2 : Int} {s3p : Option Addr} {s3l : Nat} {s3c : Nat} {s4p : Option Addr} {s4l : Nat} {s4c : Nat} {s5p : Option Addr} {s5l : Nat} {s5c : Nat} {x6 : Int} {x7 : Int} {x8 : Int} {x9 : Int} {w : World} {g : Fn W (RTy.leaves (.s (.one .any)))} (h : F26 (fun v => Back (.s (.one .any)) g (.returned v)) x1 x2 s3p s3l s3c s4p s4l s4c s5p s5l s5c x6 x7 x8 x9 w) : CallT Go.Proofs.Tryz.prog 26 [.agg #[.int .i64 x1, .int .i64 x2, .slice s3p s3l s3c, .slice s4p s4l s4c, .slice s5p s5l s5c, .int .u64 x6, .int .i64 x7, .int .i64 x8, .int .i64 x9]] (.s (.one .any)) g w := F26_calls h

/-! ## impl.dotStep$1 -/
def F27 (k : Value → W) (x_1 : Value) (a2 : Addr) (a3 : Addr) : W :=
 LoadT .slice a2 fun s4p s4l s4c =>
 RawT Go.Proofs.Tryz.prog (Instr.buildSlice 70 1 [(0, x_1)].toArray) (.s (.one .slice)) fun s5p s5l s5c =>
 NextT Go.Proofs.Tryz.prog (builtin .append #[70, 70] 70 [false, false].toArray [.slice s4p s4l s4c, .slice s5p s5l s5c].toArray) (.s (.one .slice)) fun s6p s6l s6c =>
 Store1 a2 (.slice s6p s6l s6c) <|
 LoadT .slice a2 fun s7p s7l s7c =>
 LoadT (.int .i64) (a3.add 8) fun x8 =>
 Bind (decide (((s7l : Nat) : Int) ≤ x8)) fun y9 =>
 k (.bool y9)
theorem F27_eq (k : Value → W) (x_1 : Value) (a2 : Addr) (a3 : Addr) : compF Go.Proofs.Tryz.prog Go.Proofs.Tryz.f27 [] (Go.Proofs.Tryz.f27.body.getD .skip) [x_1, .pointer (some a2), .pointer (some a3)] k = F27 k x_1 a2 a3 := by kernel_rfl
theorem F27_calls {x_1 : Value} {a2 : Addr} {a3 : Addr} {w : World} {R : Ending → World → Prop} (h : F27 (fun v w => R (.returned v) w) x_1 a2 a3 w) : Calls Go.Proofs.Tryz.prog 27 #[x_1, .pointer (some a2), .pointer (some a3)] w R :=
  calls_of_compF noNum follows [] (f := 27) (fn := Go.Proofs.Tryz.f27) (body := Go.Proofs.Tryz.f27.body.getD .skip) (args := [x_1, .pointer (some a2), .pointer (some a3)]) rfl rfl (Nat.le_of_ble_eq_true rfl) ((congrFun (F27_eq _ x_1 a2 a3) w).mpr h)
theorem F27_call {x_1 : Value} {a2 : Addr} {a3 : Addr} {w : World} {g : Fn W (RTy.leaves (.s (.one .bool)))} (h : F27 (fun v => Back (.s (.one .bool)) g (.returned v)) x_1 a2 a3 w) : CallT Go.Proofs.Tryz.prog 27 [x_1, .pointer (some a2), .pointer (some a3)] (.s (.one .bool)) g w := F27_calls h

/-! ## impl.dotStep -/
def F18 (k : Value → W) (t_1 : Value) (x2 : Int) (x3 : Int) (s4p : Option Addr) (s4l : Nat) (s4c : Nat) (s5p : Option Addr) (s5l : Nat) (s5c : Nat) (s6p : Option Addr) (s6l : Nat) (s6c : Nat) (x7 : Int) (x8 : Int) (x9 : Int) (x10 : Int) : W :=
 New [.int .i64 x2, .int .i64 x3, .slice s4p s4l s4c, .slice s5p s5l s5c, .slice s6p s6l s6c, .int .u64 x7, .int .i64 x8, .int .i64 x9, .int .i64 x10] 31 fun n11 =>
 New [.slice none 0 0, .slice none 0 0, .slice none 0 0, .int .u64 0] 38 fun n12 =>
 LoadT (.int .i64) ⟨n11, 0, none⟩ fun x13 =>
 BIf (x13 == 1) (
  Drw <|
  LoadT .slice ⟨n11, 2, none⟩ fun s14p s14l s14c =>
  MethOk Go.Proofs.Tryz.prog (.func (.method "Add") #[t_1] #[]) <|
  CallT Go.Proofs.Tryz.prog 25 [.slice s14p s14l s14c] (.s (.one .slice)) fun s15p s15l s15c =>
  NextT Go.Proofs.Tryz.prog (callMethod t_1 "Add" [.slice s15p s15l s15c].toArray) (.s (.one .slice)) fun s16p s16l s16c =>
  Chk1 ⟨n11, 2, none⟩ (.slice s14p s14l s14c) <|
  CallT Go.Proofs.Tryz.prog 24 [.slice s16p s16l s16c] (.s (.agg [.slice, .slice, .slice, (.int .u64)])) fun s17p s17l s17c s18p s18l s18c s19p s19l s19c x20 =>
  Chk1 ⟨n11, 2, none⟩ (.slice s14p s14l s14c) <|
  Store1 ⟨n12, 0, none⟩ (.slice s17p s17l s17c) <|
  Store1 ⟨n12, 1, none⟩ (.slice s18p s18l s18c) <|
  Store1 ⟨n12, 2, none⟩ (.slice s19p s19l s19c) <|
  Store1 ⟨n12, 3, none⟩ (.int .u64 x20) <|
  LoadT .slice ⟨n12, 0, none⟩ fun s21p s21l s21c =>
  LoadT .slice ⟨n12, 1, none⟩ fun s22p s22l s22c =>
  LoadT .slice ⟨n12, 2, none⟩ fun s23p s23l s23c =>
  LoadT (.int .u64) ⟨n12, 3, none⟩ fun x24 =>
  k (.agg #[.slice s21p s21l s21c, .slice s22p s22l s22c, .slice s23p s23l s23c, .int .u64 x24])) (
  BIf (x13 == 2) (
   Drw <|
   LoadT .slice ⟨n11, 2, none⟩ fun s25p s25l s25c =>
   MethOk Go.Proofs.Tryz.prog (.func (.method "Delete") #[t_1] #[]) <|
   CallT Go.Proofs.Tryz.prog 25 [.slice s25p s25l s25c] (.s (.one .slice)) fun s26p s26l s26c =>
   NextT Go.Proofs.Tryz.prog (callMethod t_1 "Delete" [.slice s26p s26l s26c].toArray) (.s (.one .slice)) fun s27p s27l s27c =>
   Chk1 ⟨n11, 2, none⟩ (.slice s25p s25l s25c) <|
   CallT Go.Proofs.Tryz.prog 24 [.slice s27p s27l s27c] (.s (.agg [.slice, .slice, .slice, (.int .u64)])) fun s28p s28l s28c s29p s29l s29c s30p s30l s30c x31 =>
   Chk1 ⟨n11, 2, none⟩ (.slice s25p s25l s25c) <|
   Store1 ⟨n12, 0, none⟩ (.slice s28p s28l s28c) <|
   Store1 ⟨n12, 1, none⟩ (.slice s29p s29l s29c) <|
   Store1 ⟨n12, 2, none⟩ (.slice s30p s30l s30c) <|
   Store1 ⟨n12, 3, none⟩ (.int .u64 x31) <|
   LoadT .slice ⟨n12, 0, none⟩ fun s32p s32l s32c =>
   LoadT .slice ⟨n12, 1, none⟩ fun s33p s33l s33c =>
   LoadT .slice ⟨n12, 2, none⟩ fun s34p s34l s34c =>
   LoadT (.int .u64) ⟨n12, 3, none⟩ fun x35 =>
   k (.agg #[.slice s32p s32l s32c, .slice s33p s33l s33c, .slice s34p s34l s34c, .int .u64 x35])) (
   BIf (x13 == 3) (
    Drw <|
    LoadT .slice ⟨n11, 2, none⟩ fun s36p s36l s36c =>
    MethOk Go.Proofs.Tryz.prog (.func (.method "Get") #[t_1] #[]) <|
    CallT Go.Proofs.Tryz.prog 25 [.slice s36p s36l s36c] (.s (.one .slice)) fun s37p s37l s37c =>
    NextT Go.Proofs.Tryz.prog (callMethod t_1 "Get" [.slice s37p s37l s37c].toArray) (.s (.one .slice)) fun s38p s38l s38c =>
    Chk1 ⟨n11, 2, none⟩ (.slice s36p s36l s36c) <|
    CallT Go.Proofs.Tryz.prog 24 [.slice s38p s38l s38c] (.s (.agg [.slice, .slice, .slice, (.int .u64)])) fun s39p s39l s39c s40p s40l s40c s41p s41l s41c x42 =>
    Chk1 ⟨n11, 2, none⟩ (.slice s36p s36l s36c) <|
    Store1 ⟨n12, 0, none⟩ (.slice s39p s39l s39c) <|
    Store1 ⟨n12, 1, none⟩ (.slice s40p s40l s40c) <|
    Store1 ⟨n12, 2, none⟩ (.slice s41p s41l s41c) <|
    Store1 ⟨n12, 3, none⟩ (.int .u64 x42) <|
    LoadT .slice ⟨n12, 0, none⟩ fun s43p s43l s43c =>
    LoadT .slice ⟨n12, 1, none⟩ fun s44p s44l s44c =>
    LoadT .slice ⟨n12, 2, none⟩ fun s45p s45l s45c =>
    LoadT (.int .u64) ⟨n12, 3, none⟩ fun x46 =>
    k (.agg #[.slice s43p s43l s43c, .slice s44p s44l s44c, .slice s45p s45l s45c, .int .u64 x46])) (
    BIf (x13 == 4) (
     Drw <|
     LoadT (.int .i64) ⟨n11, 0, none⟩ fun x47 =>
     LoadT (.int .i64) ⟨n11, 1, none⟩ fun x48 =>
     LoadT .slice ⟨n11, 2, none⟩ fun s49p s49l s49c =>
     LoadT .slice ⟨n11, 3, none⟩ fun s50p s50l s50c =>
     LoadT .slice ⟨n11, 4, none⟩ fun s51p s51l s51c =>
     LoadT (.int .u64) ⟨n11, 5, none⟩ fun x52 =>
     LoadT (.int .i64) ⟨n11, 6, none⟩ fun x53 =>
     LoadT (.int .i64) ⟨n11, 7, none⟩ fun x54 =>
     LoadT (.int .i64) ⟨n11, 8, none⟩ fun x55 =>
     MethOk Go.Proofs.Tryz.prog (.func (.method "Query") #[t_1] #[]) <|
     CallT Go.Proofs.Tryz.prog 26 [.agg #[.int .i64 x47, .int .i64 x48, .slice s49p s49l s49c, .slice s50p s50l s50c, .slice s51p s51l s51c, .int .u64 x52, .int .i64 x53, .int .i64 x54, .int .i64 x55]] (.s (.one .any)) fun v56 =>
     NextT Go.Proofs.Tryz.prog (callMethod t_1 "Query" [v56].toArray) (.s (.one .slice)) fun s57p s57l s57c =>
     Chk1 ⟨n11, 0, none⟩ (.int .i64 x47) <|
     Chk1 ⟨n11, 1, none⟩ (.int .i64 x48) <|
     Chk1 ⟨n11, 2, none⟩ (.slice s49p s49l s49c) <|
     Chk1 ⟨n11, 3, none⟩ (.slice s50p s50l s50c) <|
     Chk1 ⟨n11, 4, none⟩ (.slice s51p s51l s51c) <|
     Chk1 ⟨n11, 5, none⟩ (.int .u64 x52) <|
     Chk1 ⟨n11, 6, none⟩ (.int .i64 x53) <|
     Chk1 ⟨n11, 7, none⟩ (.int .i64 x54) <|
     Chk1 ⟨n11, 8, none⟩ (.int .i64 x55) <|
     CallT Go.Proofs.Tryz.prog 24 [.slice s57p s57l s57c] (.s (.agg [.slice, .slice, .slice, (.int .u64)])) fun s58p s58l s58c s59p s59l s59c s60p s60l s60c x61 =>
     Chk1 ⟨n11, 0, none⟩ (.int .i64 x47) <|
     Chk1 ⟨n11, 1, none⟩ (.int .i64 x48) <|
     Chk1 ⟨n11, 2, none⟩ (.slice s49p s49l s49c) <|
     Chk1 ⟨n11, 3, none⟩ (.slice s50p s50l s50c) <|
     Chk1 ⟨n11, 4, none⟩ (.slice s51p s51l s51c) <|
     Chk1 ⟨n11, 5, none⟩ (.int .u64 x52) <|
     Chk1 ⟨n11, 6, none⟩ (.int .i64 x53) <|
     Chk1 ⟨n11, 7, none⟩ (.int .i64 x54) <|
     Chk1 ⟨n11, 8, none⟩ (.int .i64 x55) <|
     Store1 ⟨n12, 0, none⟩ (.slice s58p s58l s58c) <|
     Store1 ⟨n12, 1, none⟩ (.slice s59p s59l s59c) <|
     Store1 ⟨n12, 2, none⟩ (.slice s60p s60l s60c) <|
     Store1 ⟨n12, 3, none⟩ (.int .u64 x61) <|
     LoadT .slice ⟨n12, 0, none⟩ fun s62p s62l s62c =>
     LoadT .slice ⟨n12, 1, none⟩ fun s63p s63l s63c =>
     LoadT .slice ⟨n12, 2, none⟩ fun s64p s64l s64c =>
     LoadT (.int .u64) ⟨n12, 3, none⟩ fun x65 =>
     k (.agg #[.slice s62p s62l s62c, .slice s63p s63l s63c, .slice s64p s64l s64c, .int .u64 x65])) (
     BIf (x13 == 5) (
      New [.slice none 0 0] 70 fun n66 =>
      Drw <|
      LoadT (.int .i64) ⟨n11, 0, none⟩ fun x67 =>
      LoadT (.int .i64) ⟨n11, 1, none⟩ fun x68 =>
      LoadT .slice ⟨n11, 2, none⟩ fun s69p s69l s69c =>
      LoadT .slice ⟨n11, 3, none⟩ fun s70p s70l s70c =>
      LoadT .slice ⟨n11, 4, none⟩ fun s71p s71l s71c =>
      LoadT (.int .u64) ⟨n11, 5, none⟩ fun x72 =>
      LoadT (.int .i64) ⟨n11, 6, none⟩ fun x73 =>
      LoadT (.int .i64) ⟨n11, 7, none⟩ fun x74 =>
      LoadT (.int .i64) ⟨n11, 8, none⟩ fun x75 =>
      MethOk Go.Proofs.Tryz.prog (.func (.method "Apply") #[t_1] #[]) <|
      CallT Go.Proofs.Tryz.prog 26 [.agg #[.int .i64 x67, .int .i64 x68, .slice s69p s69l s69c, .slice s70p s70l s70c, .slice s71p s71l s71c, .int .u64 x72, .int .i64 x73, .int .i64 x74, .int .i64 x75]] (.s (.one .any)) fun v76 =>
      NextT Go.Proofs.Tryz.prog (callMethod t_1 "Apply" [v76, .func (.func 27) #[] #[.pointer (some ⟨n66, 0, none⟩), .pointer (some ⟨n11, 0, none⟩)]].toArray) (.tup []) <|
      Chk1 ⟨n11, 0, none⟩ (.int .i64 x67) <|
      Chk1 ⟨n11, 1, none⟩ (.int .i64 x68) <|
      Chk1 ⟨n11, 2, none⟩ (.slice s69p s69l s69c) <|
      Chk1 ⟨n11, 3, none⟩ (.slice s70p s70l s70c) <|
      Chk1 ⟨n11, 4, none⟩ (.slice s71p s71l s71c) <|
      Chk1 ⟨n11, 5, none⟩ (.int .u64 x72) <|
      Chk1 ⟨n11, 6, none⟩ (.int .i64 x73) <|
      Chk1 ⟨n11, 7, none⟩ (.int .i64 x74) <|
      Chk1 ⟨n11, 8, none⟩ (.int .i64 x75) <|
      LoadT .slice ⟨n66, 0, none⟩ fun s77p s77l s77c =>
      CallT Go.Proofs.Tryz.prog 24 [.slice s77p s77l s77c] (.s (.agg [.slice, .slice, .slice, (.int .u64)])) fun s78p s78l s78c s79p s79l s79c s80p s80l s80c x81 =>
      Store1 ⟨n12, 0, none⟩ (.slice s78p s78l s78c) <|
      Store1 ⟨n12, 1, none⟩ (.slice s79p s79l s79c) <|
      Store1 ⟨n12, 2, none⟩ (.slice s80p s80l s80c) <|
      Store1 ⟨n12, 3, none⟩ (.int .u64 x81) <|
      LoadT .slice ⟨n12, 0, none⟩ fun s82p s82l s82c =>
      LoadT .slice ⟨n12, 1, none⟩ fun s83p s83l s83c =>
      LoadT .slice ⟨n12, 2, none⟩ fun s84p s84l s84c =>
      LoadT (.int .u64) ⟨n12, 3, none⟩ fun x85 =>
      k (.agg #[.slice s82p s82l s82c, .slice s83p s83l s83c, .slice s84p s84l s84c, .int .u64 x85])) (
      BIf (x13 == 6) (
       NextT Go.Proofs.Tryz.prog (callMethod t_1 "Len" [].toArray) (.s (.one (.int .u64))) fun x86 =>
       Store1 ⟨n12, 0, none⟩ (.slice none 0 0) <|
       Store1 ⟨n12, 1, none⟩ (.slice none 0 0) <|
       Store1 ⟨n12, 2, none⟩ (.slice none 0 0) <|
       Store1 ⟨n12, 3, none⟩ (.int .u64 x86) <|
       LoadT .slice ⟨n12, 0, none⟩ fun s87p s87l s87c =>
       LoadT .slice ⟨n12, 1, none⟩ fun s88p s88l s88c =>
       LoadT .slice ⟨n12, 2, none⟩ fun s89p s89l s89c =>
       LoadT (.int .u64) ⟨n12, 3, none⟩ fun x90 =>
       k (.agg #[.slice s87p s87l s87c, .slice s88p s88l s88c, .slice s89p s89l s89c, .int .u64 x90])) (
       BIf (x13 == 7) (
        LoadT (.int .u64) ⟨n11, 5, none⟩ fun x91 =>
        LoadT (.int .i64) ⟨n11, 6, none⟩ fun x92 =>
        LoadT (.int .i64) ⟨n11, 7, none⟩ fun x93 =>
        NextT Go.Proofs.Tryz.prog (callMethod t_1 "InsertAtDimension" [.int .u64 x91, .int .i64 x92, .int .i64 x93].toArray) (.tup [(.one .slice), (.one .slice)]) fun s94p s94l s94c s95p s95l s95c =>
        CallT Go.Proofs.Tryz.prog 28 [.slice s94p s94l s94c, .slice s95p s95l s95c] (.s (.agg [.slice, .slice, .slice, (.int .u64)])) fun s96p s96l s96c s97p s97l s97c s98p s98l s98c x99 =>
        Store1 ⟨n12, 0, none⟩ (.slice s96p s96l s96c) <|
        Store1 ⟨n12, 1, none⟩ (.slice s97p s97l s97c) <|
        Store1 ⟨n12, 2, none⟩ (.slice s98p s98l s98c) <|
        Store1 ⟨n12, 3, none⟩ (.int .u64 x99) <|
        LoadT .slice ⟨n12, 0, none⟩ fun s100p s100l s100c =>
        LoadT .slice ⟨n12, 1, none⟩ fun s101p s101l s101c =>
        LoadT .slice ⟨n12, 2, none⟩ fun s102p s102l s102c =>
        LoadT (.int .u64) ⟨n12, 3, none⟩ fun x103 =>
        k (.agg #[.slice s100p s100l s100c, .slice s101p s101l s101c, .slice s102p s102l s102c, .int .u64 x103])) (
        Store1 ⟨n12, 0, none⟩ (.slice none 0 0) <|
        Store1 ⟨n12, 1, none⟩ (.slice none 0 0) <|
        Store1 ⟨n12, 2, none⟩ (.slice none 0 0) <|
        Store1 ⟨n12, 3, none⟩ (.int .u64 0) <|
        LoadT .slice ⟨n12, 0, none⟩ fun s104p s104l s104c =>
        LoadT .slice ⟨n12, 1, none⟩ fun s105p s105l s105c =>
        LoadT .slice ⟨n12, 2, none⟩ fun s106p s106l s106c =>
        LoadT (.int .u64) ⟨n12, 3, none⟩ fun x107 =>
        k (.agg #[.slice s104p s104l s104c, .slice s105p s105l s105c, .slice s106p s106l s106c, .int .u64 x107]))))))))
theorem F18_eq (k : Value → W) (t_1 : Value) (x2 : Int) (x3 : Int) (s4p : Option Addr) (s4l : Nat) (s4c : Nat) (s5p : Option Addr) (s5l : Nat) (s5c : Nat) (s6p : Option Addr) (s6l : Nat) (s6c : Nat) (x7 : Int) (x8 : Int) (x9 : Int) (x10 : Int) : compF Go.Proofs.Tryz.prog Go.Proofs.Tryz.f18 [] (Go.Proofs.Tryz.f18.body.getD .skip) [t_1, .agg #[.int .i64 x2, .int .i64 x3, .slice s4p s4l s4c, .slice s5p s5l s5c, .slice s6p s6l s6c, .int .u64 x7, .int .i64 x8, .int .i64 x9, .int .i64 x10]] k = F18 k t_1 x2 x3 s4p s4l s4c s5p s5l s5c s6p s6l s6c x7 x8 x9 x10 := by kernel_rfl
theorem F18_calls {t_1 : Value} {x2 : Int} {x3 : Int} {s4p : Option Addr} {s4l : Nat} {s4c : Nat} {s5p : Option Addr} {s5l : Nat} {s5c : Nat} {s6p : Option Addr} {s6l : Nat} {s6c : Nat} {x7 : Int} {x8 : Int} {x9 : Int} {x10 : Int} {w : World} {R : Ending → World → Prop} (h : F18 (fun v w => R (.returned v) w) t_1 x2 x3 s4p s4l s4c s5p s5l s5c s6p s6l s6c x7 x8 x9 x10 w) : Calls Go.Proofs.Tryz.prog 18 #[t_1, .agg #[.int .i64 x2, .int .i64 x3, .slice s4p s4l s4c, .slice s5p s5l s5c, .slice s6p s6l s6c, .int .u64 x7, .int .i64 x8, .int .i64 x9, .int .i64 x10]] w R :=
  calls_of_compF noNum follows [] (f := 18) (fn := Go.Proofs.Tryz.f18) (body := Go.Proofs.Tryz.f18.body.getD .skip) (args := [t_1, .agg #[.int .i64 x2, .int .i64 x3, .slice s4p s4l s4c, .slice s5p s5l s5c, .slice s6p s6l s6c, .int .u64 x7, .int .i64 x8, .int .i64 x9, .int .i64 x10]]) rfl rfl (Nat.le_of_ble_eq_true rfl) ((congrFun (F18_eq _ t_1 x2 x3 s4p s4l s4c s5p s5l s5c s6p s6l s6c x7 x8 x9 x10) w).mpr h)
theorem F18_call {t_1 : Value} {x2 : Int} {x3 : Int} {s4p : Option Addr} {s4l : Nat} {s4c : Nat} {s5p : Option Addr} {s5l : Nat} {s5c : Nat} {s6p : Option Addr} {s6l : Nat} {s6c : Nat} {x7 : Int} {x8 : Int} {x9 : Int} {x10 : Int} {w : World} {g : Fn W (RTy.leaves (.s (.agg [.slice, .slice, .slice, (.int .u64)])))} (h : F18 (fun v => Back (.s (.agg [.slice, .slice, .slice, (.int .u64)])) g (.returned v)) t_1 x2 x3 s4p s4l s4c s5p s5l s5c s6p s6l s6c x7 x8 x9 x10 w) : CallT Go.Proofs.Tryz.prog 18 [t_1, .agg #[.int .i64 x2, .int .i64 x3, .slice s4p s4l s4c, .slice s5p s5l s5c, .slice s6p s6l s6c, .int .u64 x7, .int .i64 x8, .int .i64 x9, .int .i64 x10]] (.s (.agg [.slice, .slice, .slice, (.int .u64)])) g w := F18_calls h

/-! ## impl.RTRun -/
def F8_L1 (k : Value → W) (again9 : Value → Option Addr → Nat → Nat → Option Addr → Nat → Nat → Int → Int → W) (t_4 : Value) (out_5p : Option Addr) (out_5l : Nat) (out_5c : Nat) (s6p : Option Addr) (s6l : Nat) (s6c : Nat) (x7 : Int) (x8 : Int) : W :=
 BIf (decide (x8 < x7)) (
  NN s6p fun a10 =>
  Req (0 ≤ x8 ∧ x8 < ((s6l : Nat) : Int)) <|
  LoadT (.int .i64) ((a10.add (x8.toNat * 9)).add 0) fun x11 =>
  LoadT (.int .i64) ((a10.add (x8.toNat * 9)).add 1) fun x12 =>
  LoadT .slice ((a10.add (x8.toNat * 9)).add 2) fun s13p s13l s13c =>
  LoadT .slice ((a10.add (x8.toNat * 9)).add 3) fun s14p s14l s14c =>
  LoadT .slice ((a10.add (x8.toNat * 9)).add 4) fun s15p s15l s15c =>
  LoadT (.int .u64) ((a10.add (x8.toNat * 9)).add 5) fun x16 =>
  LoadT (.int .i64) ((a10.add (x8.toNat * 9)).add 6) fun x17 =>
  LoadT (.int .i64) ((a10.add (x8.toNat * 9)).add 7) fun x18 =>
  LoadT (.int .i64) ((a10.add (x8.toNat * 9)).add 8) fun x19 =>
  New [.int .i64 0, .int .i64 0, .slice none 0 0, .slice none 0 0, .slice none 0 0, .int .u64 0, .int .i64 0, .int .i64 0, .int .i64 0] 31 fun n20 =>
  Store1 ⟨n20, 0, none⟩ (.int .i64 x11) <|
  Store1 ⟨n20, 1, none⟩ (.int .i64 x12) <|
  Store1 ⟨n20, 2, none⟩ (.slice s13p s13l s13c) <|
  Store1 ⟨n20, 3, none⟩ (.slice s14p s14l s14c) <|
  Store1 ⟨n20, 4, none⟩ (.slice s15p s15l s15c) <|
  Store1 ⟨n20, 5, none⟩ (.int .u64 x16) <|
  Store1 ⟨n20, 6, none⟩ (.int .i64 x17) <|
  Store1 ⟨n20, 7, none⟩ (.int .i64 x18) <|
  Store1 ⟨n20, 8, none⟩ (.int .i64 x19) <|
  LoadT (.int .i64) ⟨n20, 0, none⟩ fun x21 =>
  LoadT (.int .i64) ⟨n20, 1, none⟩ fun x22 =>
  LoadT .slice ⟨n20, 2, none⟩ fun s23p s23l s23c =>
  LoadT .slice ⟨n20, 3, none⟩ fun s24p s24l s24c =>
  LoadT .slice ⟨n20, 4, none⟩ fun s25p s25l s25c =>
  LoadT (.int .u64) ⟨n20, 5, none⟩ fun x26 =>
  LoadT (.int .i64) ⟨n20, 6, none⟩ fun x27 =>
  LoadT (.int .i64) ⟨n20, 7, none⟩ fun x28 =>
  LoadT (.int .i64) ⟨n20, 8, none⟩ fun x29 =>
  CallT Go.Proofs.Tryz.prog 18 [t_4, .agg #[.int .i64 x21, .int .i64 x22, .slice s23p s23l s23c, .slice s24p s24l s24c, .slice s25p s25l s25c, .int .u64 x26, .int .i64 x27, .int .i64 x28, .int .i64 x29]] (.s (.agg [.slice, .slice, .slice, (.int .u64)])) fun s30p s30l s30c s31p s31l s31c s32p s32l s32c x33 =>
  RawT Go.Proofs.Tryz.prog (Instr.buildSlice 33 1 [(0, .agg #[.slice s30p s30l s30c, .slice s31p s31l s31c, .slice s32p s32l s32c, .int .u64 x33])].toArray) (.s (.one .slice)) fun s34p s34l s34c =>
  NextT Go.Proofs.Tryz.prog (builtin .append #[33, 33] 33 [false, false].toArray [.slice out_5p out_5l out_5c, .slice s34p s34l s34c].toArray) (.s (.one .slice)) fun s35p s35l s35c =>
  again9 t_4 s35p s35l s35c s6p s6l s6c x7 (addI .i64 x8 1)) (
  k (.slice out_5p out_5l out_5c))
theorem F8_L1_rule {k : Value → W} (I : Value → Option Addr → Nat → Nat → Option Addr → Nat → Nat → Int → Int → W) (μ : Value → Option Addr → Nat → Nat → Option Addr → Nat → Nat → Int → Int → World → Nat)
  (hr : ∀ (t_4 : Value) (out_5p : Option Addr) (out_5l : Nat) (out_5c : Nat) (s6p : Option Addr) (s6l : Nat) (s6c : Nat) (x7 : Int) (x8 : Int) (w : World), I t_4 out_5p out_5l out_5c s6p s6l s6c x7 x8 w → F8_L1 k (fun t_4' out_5p' out_5l' out_5c' s6p' s6l' s6c' x7' x8' w' => I t_4' out_5p' out_5l' out_5c' s6p' s6l' s6c' x7' x8' w' ∧ μ t_4' out_5p' out_5l' out_5c' s6p' s6l' s6c' x7' x8' w' < μ t_4 out_5p out_5l out_5c s6p s6l s6c x7 x8 w) t_4 out_5p out_5l out_5c s6p s6l s6c x7 x8 w)
  {w : World} {t_4 : Value} {out_5p : Option Addr} {out_5l : Nat} {out_5c : Nat} {s6p : Option Addr} {s6l : Nat} {s6c : Nat} {x7 : Int} {x8 : Int} (h : I t_4 out_5p out_5l out_5c s6p s6l s6c x7 x8 w) : Loop [.any, .slice, .slice, (.int .i64), (.int .i64)] (F8_L1 k) t_4 out_5p out_5l out_5c s6p s6l s6c x7 x8 w :=
  Loop_intro (ts := [.any, .slice, .slice, (.int .i64), (.int .i64)]) (s := (t_4, (out_5p, out_5l, out_5c), (s6p, s6l, s6c), x7, x8, ())) (fun s w => I s.1 s.2.1.1 s.2.1.2.1 s.2.1.2.2 s.2.2.1.1 s.2.2.1.2.1 s.2.2.1.2.2 s.2.2.2.1 s.2.2.2.2.1 w) (fun s w => μ s.1 s.2.1.1 s.2.1.2.1 s.2.1.2.2 s.2.2.1.1 s.2.2.1.2.1 s.2.2.1.2.2 s.2.2.2.1 s.2.2.2.2.1 w) h (fun s w h => hr s.1 s.2.1.1 s.2.1.2.1 s.2.1.2.2 s.2.2.1.1 s.2.2.1.2.1 s.2.2.1.2.2 s.2.2.2.1 s.2.2.2.2.1 w h)
def F8 (k : Value → W) (dims_1 : Int) (steps_2p : Option Addr) (steps_2l : Nat) (steps_2c : Nat) : W :=
 CallT Go.Proofs.Tryz.prog 17 [.int .u64 dims_1] (.s (.one .any)) fun v3 =>
 Loop [.any, .slice, .slice, (.int .i64), (.int .i64)] (F8_L1 k) v3 none 0 0 steps_2p steps_2l steps_2c ((steps_2l : Nat) : Int) 0
theorem F8_eq (k : Value → W) (dims_1 : Int) (steps_2p : Option Addr) (steps_2l : Nat) (steps_2c : Nat) : compF Go.Proofs.Tryz.prog Go.Proofs.Tryz.f8 [(4, [(5, .any), (6, .slice), (11, .slice), (12, (.int .i64)), (13, (.int .i64))])] (Go.Proofs.Tryz.f8.body.getD .skip) [.int .u64 dims_1, .slice steps_2p steps_2l steps_2c] k = F8 k dims_1 steps_2p steps_2l steps_2c := by kernel_rfl
theorem F8_calls {dims_1 : Int} {steps_2p : Option Addr} {steps_2l : Nat} {steps_2c : Nat} {w : World} {R : Ending → World → Prop} (h : F8 (fun v w => R (.returned v) w) dims_1 steps_2p steps_2l steps_2c w) : Calls Go.Proofs.Tryz.prog 8 #[.int .u64 dims_1, .slice steps_2p steps_2l steps_2c] w R :=
  calls_of_compF noNum follows [(4, [(5, .any), (6, .slice), (11, .slice), (12, (.int .i64)), (13, (.int .i64))])] (f := 8) (fn := Go.Proofs.Tryz.f8) (body := Go.Proofs.Tryz.f8.body.getD .skip) (args := [.int .u64 dims_1, .slice steps_2p steps_2l steps_2c]) rfl rfl (Nat.le_of_ble_eq_true rfl) ((congrFun (F8_eq _ dims_1 steps_2p steps_2l steps_2c) w).mpr h)
theorem F8_call {dims_1 : Int} {steps_2p : Option Addr} {steps_2l : Nat} {steps_2c : Nat} {w : World} {g : Fn W (RTy.leaves (.s (.one .slice)))} (h : F8 (fun v => Back (.s (.one .slice)) g (.returned v)) dims_1 steps_2p steps_2l steps_2c w) : CallT Go.Proofs.Tryz.prog 8 [.int .u64 dims_1, .slice steps_2p steps_2l steps_2c] (.s (.one .slice)) g w := F8_calls h

/-! ## laws.rtVals -/
def F10_L1 (k : Value → W) (again5 : Option Addr → Nat → Nat → Option Addr → Nat → Nat → Int → W) (l_2p : Option Addr) (l_2l : Nat) (l_2c : Nat) (out_3p : Option Addr) (out_3l : Nat) (out_3c : Nat) (i_4 : Int) : W :=
 BIf (decide (i_4 < ((l_2l : Nat) : Int))) (
  NN l_2p fun a6 =>
  Req (0 ≤ i_4 ∧ i_4 < ((l_2l : Nat) : Int)) <|
  LoadT (.int .i64) ((a6.add (i_4.toNat * 2)).add 1) fun x7 =>
  RawT Go.Proofs.Tryz.prog (Instr.buildSlice 26 1 [(0, .int .i64 x7)].toArray) (.s (.one .slice)) fun s8p s8l s8c =>
  NextT Go.Proofs.Tryz.prog (builtin .append #[26, 26] 26 [false, false].toArray [.slice out_3p out_3l out_3c, .slice s8p s8l s8c].toArray) (.s (.one .slice)) fun s9p s9l s9c =>
  again5 l_2p l_2l l_2c s9p s9l s9c (addI .i64 i_4 1)) (
  k (.slice out_3p out_3l out_3c))
theorem F10_L1_rule {k : Value → W} (I : Option Addr → Nat → Nat → Option Addr → Nat → Nat → Int → W) (μ : Option Addr → Nat → Nat → Option Addr → Nat → Nat → Int → World → Nat)
  (hr : ∀ (l_2p : Option Addr) (l_2l : Nat) (l_2c : Nat) (out_3p : Option Addr) (out_3l : Nat) (out_3c : Nat) (i_4 : Int) (w : World), I l_2p l_2l l_2c out_3p out_3l out_3c i_4 w → F10_L1 k (fun l_2p' l_2l' l_2c' out_3p' out_3l' out_3c' i_4' w' => I l_2p' l_2l' l_2c' out_3p' out_3l' out_3c' i_4' w' ∧ μ l_2p' l_2l' l_2c' out_3p' out_3l' out_3c' i_4' w' < μ l_2p l_2l l_2c out_3p out_3l out_3c i_4 w) l_2p l_2l l_2c out_3p out_3l out_3c i_4 w)
  {w : World} {l_2p : Option Addr} {l_2l : Nat} {l_2c : Nat} {out_3p : Option Addr} {out_3l : Nat} {out_3c : Nat} {i_4 : Int} (h : I l_2p l_2l l_2c out_3p out_3l out_3c i_4 w) : Loop [.slice, .slice, (.int .i64)] (F10_L1 k) l_2p l_2l l_2c out_3p out_3l out_3c i_4 w :=
  Loop_intro (ts := [.slice, .slice, (.int .i64)]) (s := ((l_2p, l_2l, l_2c), (out_3p, out_3l, out_3c), i_4, ())) (fun s w => I s.1.1 s.1.2.1 s.1.2.2 s.2.1.1 s.2.1.2.1 s.2.1.2.2 s.2.2.1 w) (fun s w => μ s.1.1 s.1.2.1 s.1.2.2 s.2.1.1 s.2.1.2.1 s.2.1.2.2 s.2.2.1 w) h (fun s w h => hr s.1.1 s.1.2.1 s.1.2.2 s.2.1.1 s.2.1.2.1 s.2.1.2.2 s.2.2.1 w h)
def F10 (k : Value → W) (l_1p : Option Addr) (l_1l : Nat) (l_1c : Nat) : W :=
 Loop [.slice, .slice, (.int .i64)] (F10_L1 k) l_1p l_1l l_1c none 0 0 0
theorem F10_eq (k : Value → W) (l_1p : Option Addr) (l_1l : Nat) (l_1c : Nat) : compF Go.Proofs.Tryz.prog Go.Proofs.Tryz.f10 [(3, [(0, .slice), (3, .slice), (4, (.int .i64))])] (Go.Proofs.Tryz.f10.body.getD .skip) [.slice l_1p l_1l l_1c] k = F10 k l_1p l_1l l_1c := by kernel_rfl
theorem F10_calls {l_1p : Option Addr} {l_1l : Nat} {l_1c : Nat} {w : World} {R : Ending → World → Prop} (h : F10 (fun v w => R (.returned v) w) l_1p l_1l l_1c w) : Calls Go.Proofs.Tryz.prog 10 #[.slice l_1p l_1l l_1c] w R :=
  calls_of_compF noNum follows [(3, [(0, .slice), (3, .slice), (4, (.int .i64))])] (f := 10) (fn := Go.Proofs.Tryz.f10) (body := Go.Proofs.Tryz.f10.body.getD .skip) (args := [.slice l_1p l_1l l_1c]) rfl rfl (Nat.le_of_ble_eq_true rfl) ((congrFun (F10_eq _ l_1p l_1l l_1c) w).mpr h)
theorem F10_call {l_1p : Option Addr} {l_1l : Nat} {l_1c : Nat} {w : World} {g : Fn W (RTy.leaves (.s (.one .slice)))} (h : F10 (fun v => Back (.s (.one .slice)) g (.returned v)) l_1p l_1l l_1c w) : CallT Go.Proofs.Tryz.prog 10 [.slice l_1p l_1l l_1c] (.s (.one .slice)) g w := F10_calls h

/-! ## spec.SPSame -/
def F9_L1 (k : Value → W) (again6 : Option Addr → Nat → Nat → Option Addr → Nat → Nat → Int → W) (a_3p : Option Addr) (a_3l : Nat) (a_3c : Nat) (b_4p : Option Addr) (b_4l : Nat) (b_4c : Nat) (i_5 : Int) : W :=
 BIf (decide (i_5 < ((a_3l : Nat) : Int))) (
  Drw <|
  NN a_3p fun a7 =>
  Req (0 ≤ i_5 ∧ i_5 < ((a_3l : Nat) : Int)) <|
  LoadT (.int .i64) (a7.add i_5.toNat) fun x8 =>
  NN b_4p fun a9 =>
  Req (0 ≤ i_5 ∧ i_5 < ((b_4l : Nat) : Int)) <|
  LoadT (.int .i64) (a9.add i_5.toNat) fun x10 =>
  BIf (x8 != x10) (
   k (.bool false)) (
   again6 a_3p a_3l a_3c b_4p b_4l b_4c (addI .i64 i_5 1))) (
  k (.bool true))
theorem F9_L1_rule {k : Value → W} (I : Option Addr → Nat → Nat → Option Addr → Nat → Nat → Int → W) (μ : Option Addr → Nat → Nat → Option Addr → Nat → Nat → Int → World → Nat)
  (hr : ∀ (a_3p : Option Addr) (a_3l : Nat) (a_3c : Nat) (b_4p : Option Addr) (b_4l : Nat) (b_4c : Nat) (i_5 : Int) (w : World), I a_3p a_3l a_3c b_4p b_4l b_4c i_5 w → F9_L1 k (fun a_3p' a_3l' a_3c' b_4p' b_4l' b_4c' i_5' w' => I a_3p' a_3l' a_3c' b_4p' b_4l' b_4c' i_5' w' ∧ μ a_3p' a_3l' a_3c' b_4p' b_4l' b_4c' i_5' w' < μ a_3p a_3l a_3c b_4p b_4l b_4c i_5 w) a_3p a_3l a_3c b_4p b_4l b_4c i_5 w)
  {w : World} {a_3p : Option Addr} {a_3l : Nat} {a_3c : Nat} {b_4p : Option Addr} {b_4l : Nat} {b_4c : Nat} {i_5 : Int} (h : I a_3p a_3l a_3c b_4p b_4l b_4c i_5 w) : Loop [.slice, .slice, (.int .i64)] (F9_L1 k) a_3p a_3l a_3c b_4p b_4l b_4c i_5 w :=
  Loop_intro (ts := [.slice, .slice, (.int .i64)]) (s := ((a_3p, a_3l, a_3c), (b_4p, b_4l, b_4c), i_5, ())) (fun s w => I s.1.1 s.1.2.1 s.1.2.2 s.2.1.1 s.2.1.2.1 s.2.1.2.2 s.2.2.1 w) (fun s w => μ s.1.1 s.1.2.1 s.1.2.2 s.2.1.1 s.2.1.2.1 s.2.1.2.2 s.2.2.1 w) h (fun s w h => hr s.1.1 s.1.2.1 s.1.2.2 s.2.1.1 s.2.1.2.1 s.2.1.2.2 s.2.2.1 w h)
def F9 (k : Value → W) (a_1p : Option Addr) (a_1l : Nat) (a_1c : Nat) (b_2p : Option Addr) (b_2l : Nat) (b_2c : Nat) : W :=
 BIf (((a_1l : Nat) : Int) != ((b_2l : Nat) : Int)) (
  k (.bool false)) (
  Loop [.slice, .slice, (.int .i64)] (F9_L1 k) a_1p a_1l a_1c b_2p b_2l b_2c 0)
theorem F9_eq (k : Value → W) (a_1p : Option Addr) (a_1l : Nat) (a_1c : Nat) (b_2p : Option Addr) (b_2l : Nat) (b_2c : Nat) : compF Go.Proofs.Tryz.prog Go.Proofs.Tryz.f9 [(4, [(0, .slice), (1, .slice), (5, (.int .i64))])] (Go.Proofs.Tryz.f9.body.getD .skip) [.slice a_1p a_1l a_1c, .slice b_2p b_2l b_2c] k = F9 k a_1p a_1l a_1c b_2p b_2l b_2c := by kernel_rfl
theorem F9_calls {a_1p : Option Addr} {a_1l : Nat} {a_1c : Nat} {b_2p : Option Addr} {b_2l : Nat} {b_2c : Nat} {w : World} {R : Ending → World → Prop} (h : F9 (fun v w => R (.returned v) w) a_1p a_1l a_1c b_2p b_2l b_2c w) : Calls Go.Proofs.Tryz.prog 9 #[.slice a_1p a_1l a_1c, .slice b_2p b_2l b_2c] w R :=
  calls_of_compF noNum follows [(4, [(0, .slice), (1, .slice), (5, (.int .i64))])] (f := 9) (fn := Go.Proofs.Tryz.f9) (body := Go.Proofs.Tryz.f9.body.getD .skip) (args := [.slice a_1p a_1l a_1c, .slice b_2p b_2l b_2c]) rfl rfl (Nat.le_of_ble_eq_true rfl) ((congrFun (F9_eq _ a_1p a_1l a_1c b_2p b_2l b_2c) w).mpr h)
theorem F9_call {a_1p : Option Addr} {a_1l : Nat} {a_1c : Nat} {b_2p : Option Addr} {b_2l : Nat} {b_2c : Nat} {w : World} {g : Fn W (RTy.leaves (.s (.one .bool)))} (h : F9 (fun v => Back (.s (.one .bool)) g (.returned v)) a_1p a_1l a_1c b_2p b_2l b_2c w) : CallT Go.Proofs.Tryz.prog 9 [.slice a_1p a_1l a_1c, .slice b_2p b_2l b_2c] (.s (.one .bool)) g w := F9_calls h

end Go.Proofs.YtfokodpnoiilbaaGreat.E
