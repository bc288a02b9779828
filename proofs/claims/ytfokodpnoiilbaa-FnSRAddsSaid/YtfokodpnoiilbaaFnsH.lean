/-
  Printed by this session's own program eng.py out of Lean's print of the loaded functions: what each function's body asks, in the engine's words; each is checked against the program by the kernel.
-/
import Derived.Test.YtfokodpnoiilbaaEng
import Derived.Test.YtfokodpnoiilbaaFnsA
namespace Go.Proofs.Ytfokodpnoiilbaa.E
open Go
set_option linter.unusedVariables false
set_option maxRecDepth 100000
/-! ## rangetree.newOrderedTree -/
def F65 (k : Value → W) (dimensions_1 : Int) : W :=
 RawT Go.Proofs.Try.prog (Instr.makeSlice 184 (.int .i64 0) (.int .u64 dimensions_1)) (.s (.one .slice)) fun s2p s2l s2c =>
 New [.slice none 0 0, .int .u64 0, .int .u64 dimensions_1, .slice s2p s2l s2c] 188 fun n3 =>
 k (.pointer (some ⟨n3, 0, none⟩))
theorem F65_eq (k : Value → W) (dimensions_1 : Int) : compF Go.Proofs.Try.prog Go.Proofs.Try.f65 [] (Go.Proofs.Try.f65.body.getD .skip) [.int .u64 dimensions_1] k = F65 k dimensions_1 := by kernel_rfl
theorem F65_calls {dimensions_1 : Int} {w : World} {R : Ending → World → Prop} (h : F65 (fun v w => R (.returned v) w) dimensions_1 w) : Calls Go.Proofs.Try.prog 65 #[.int .u64 dimensions_1] w R :=
  calls_of_compF noNum follows [] (f := 65) (fn := Go.Proofs.Try.f65) (body := Go.Proofs.Try.f65.body.getD .skip) (args := [.int .u64 dimensions_1]) rfl rfl (Nat.le_of_ble_eq_true rfl) ((congrFun (F65_eq _ dimensions_1) w).mpr h)
theorem F65_call {dimensions_1 : Int} {w : World} {g : Fn W (RTy.leaves (.s (.one .ptr)))} (h : F65 (fun v => Back (.s (.one .ptr)) g (.returned v)) dimensions_1 w) : CallT Go.Proofs.Try.prog 65 [.int .u64 dimensions_1] (.s (.one .ptr)) g w := F65_calls h

/-! ## rangetree.New -/
def F32 (k : Value → W) (dimensions_1 : Int) : W :=
 CallT Go.Proofs.Try.prog 65 [.int .u64 dimensions_1] (.s (.one .ptr)) fun p2 =>
 k (.iface 140 (.pointer p2))
theorem F32_eq (k : Value → W) (dimensions_1 : Int) : compF Go.Proofs.Try.prog Go.Proofs.Try.f32 [] (Go.Proofs.Try.f32.body.getD .skip) [.int .u64 dimensions_1] k = F32 k dimensions_1 := by kernel_rfl
theorem F32_calls {dimensions_1 : Int} {w : World} {R : Ending → World → Prop} (h : F32 (fun v w => R (.returned v) w) dimensions_1 w) : Calls Go.Proofs.Try.prog 32 #[.int .u64 dimensions_1] w R :=
  calls_of_compF noNum follows [] (f := 32) (fn := Go.Proofs.Try.f32) (body := Go.Proofs.Try.f32.body.getD .skip) (args := [.int .u64 dimensions_1]) rfl rfl (Nat.le_of_ble_eq_true rfl) ((congrFun (F32_eq _ dimensions_1) w).mpr h)
theorem F32_call {dimensions_1 : Int} {w : World} {g : Fn W (RTy.leaves (.s (.one .any)))} (h : F32 (fun v => Back (.s (.one .any)) g (.returned v)) dimensions_1 w) : CallT Go.Proofs.Try.prog 32 [.int .u64 dimensions_1] (.s (.one .any)) g w := F32_calls h

/-! ## impl.dot).ValueAtDimension -/
def F165 (k : Value → W) (s1p : Option Addr) (s1l : Nat) (s1c : Nat) (x2 : Int) (d_3 : Int) : W :=
 New [.slice s1p s1l s1c, .int .i64 x2] 192 fun n4 =>
 LoadT .slice ⟨n4, 0, none⟩ fun s5p s5l s5c =>
 CallT Go.Proofs.Try.prog 162 [.slice s5p s5l s5c, .int .u64 d_3] (.s (.one (.int .i64))) fun x6 =>
 k (.int .i64 x6)
theorem F165_eq (k : Value → W) (s1p : Option Addr) (s1l : Nat) (s1c : Nat) (x2 : Int) (d_3 : Int) : compF Go.Proofs.Try.prog Go.Proofs.Try.f165 [] (Go.Proofs.Try.f165.body.getD .skip) [.agg #[.slice s1p s1l s1c, .int .i64 x2], .int .u64 d_3] k = F165 k s1p s1l s1c x2 d_3 := by kernel_rfl
theorem F165_calls {s1p : Option Addr} {s1l : Nat} {s1c : Nat} {x2 : Int} {d_3 : Int} {w : World} {R : Ending → World → Prop} (h : F165 (fun v w => R (.returned v) w) s1p s1l s1c x2 d_3 w) : Calls Go.Proofs.Try.prog 165 #[.agg #[.slice s1p s1l s1c, .int .i64 x2], .int .u64 d_3] w R :=
  calls_of_compF noNum follows [] (f := 165) (fn := Go.Proofs.Try.f165) (body := Go.Proofs.Try.f165.body.getD .skip) (args := [.agg #[.slice s1p s1l s1c, .int .i64 x2], .int .u64 d_3]) rfl rfl (Nat.le_of_ble_eq_true rfl) ((congrFun (F165_eq _ s1p s1l s1c x2 d_3) w).mpr h)
theorem F165_call {s1p : Option Addr} {s1l : Nat} {s1c : Nat} {x2 : Int} {d_3 : Int} {w : World} {g : Fn W (RTy.leaves (.s (.one (.int .i64))))} (h : F165 (fun v => Back (.s (.one (.int .i64))) g (.returned v)) s1p s1l s1c x2 d_3 w) : CallT Go.Proofs.Try.prog 165 [.agg #[.slice s1p s1l s1c, .int .i64 x2], .int .u64 d_3] (.s (.one (.int .i64))) g w := F165_calls h

/-! ## impl.span).LowAtDimension -/
def F161 (k : Value → W) (s1p : Option Addr) (s1l : Nat) (s1c : Nat) (s2p : Option Addr) (s2l : Nat) (s2c : Nat) (x3 : Int) (d_4 : Int) : W :=
 New [.slice s1p s1l s1c, .slice s2p s2l s2c, .int .u64 x3] 181 fun n5 =>
 LoadT .slice ⟨n5, 0, none⟩ fun s6p s6l s6c =>
 CallT Go.Proofs.Try.prog 162 [.slice s6p s6l s6c, .int .u64 d_4] (.s (.one (.int .i64))) fun x7 =>
 k (.int .i64 x7)
theorem F161_eq (k : Value → W) (s1p : Option Addr) (s1l : Nat) (s1c : Nat) (s2p : Option Addr) (s2l : Nat) (s2c : Nat) (x3 : Int) (d_4 : Int) : compF Go.Proofs.Try.prog Go.Proofs.Try.f161 [] (Go.Proofs.Try.f161.body.getD .skip) [.agg #[.slice s1p s1l s1c, .slice s2p s2l s2c, .int .u64 x3], .int .u64 d_4] k = F161 k s1p s1l s1c s2p s2l s2c x3 d_4 := by kernel_rfl
theorem F161_calls {s1p : Option Addr} {s1l : Nat} {s1c : Nat} {s2p : Option Addr} {s2l : Nat} {s2c : Nat} {x3 : Int} {d_4 : Int} {w : World} {R : Ending → World → Prop} (h : F161 (fun v w => R (.returned v) w) s1p s1l s1c s2p s2l s2c x3 d_4 w) : Calls Go.Proofs.Try.prog 161 #[.agg #[.slice s1p s1l s1c, .slice s2p s2l s2c, .int .u64 x3], .int .u64 d_4] w R :=
  calls_of_compF noNum follows [] (f := 161) (fn := Go.Proofs.Try.f161) (body := Go.Proofs.Try.f161.body.getD .skip) (args := [.agg #[.slice s1p s1l s1c, .slice s2p s2l s2c, .int .u64 x3], .int .u64 d_4]) rfl rfl (Nat.le_of_ble_eq_true rfl) ((congrFun (F161_eq _ s1p s1l s1c s2p s2l s2c x3 d_4) w).mpr h)
theorem F161_call {s1p : Option Addr} {s1l : Nat} {s1c : Nat} {s2p : Option Addr} {s2l : Nat} {s2c : Nat} {x3 : Int} {d_4 : Int} {w : World} {g : Fn W (RTy.leaves (.s (.one (.int .i64))))} (h : F161 (fun v => Back (.s (.one (.int .i64))) g (.returned v)) s1p s1l s1c s2p s2l s2c x3 d_4 w) : CallT Go.Proofs.Try.prog 161 [.agg #[.slice s1p s1l s1c, .slice s2p s2l s2c, .int .u64 x3], .int .u64 d_4] (.s (.one (.int .i64))) g w := F161_calls h

/-! ## impl.span).HighAtDimension -/
def F159 (k : Value → W) (s1p : Option Addr) (s1l : Nat) (s1c : Nat) (s2p : Option Addr) (s2l : Nat) (s2c : Nat) (x3 : Int) (d_4 : Int) : W :=
 New [.slice s1p s1l s1c, .slice s2p s2l s2c, .int .u64 x3] 181 fun n5 =>
 LoadT .slice ⟨n5, 1, none⟩ fun s6p s6l s6c =>
 CallT Go.Proofs.Try.prog 162 [.slice s6p s6l s6c, .int .u64 d_4] (.s (.one (.int .i64))) fun x7 =>
 k (.int .i64 x7)
theorem F159_eq (k : Value → W) (s1p : Option Addr) (s1l : Nat) (s1c : Nat) (s2p : Option Addr) (s2l : Nat) (s2c : Nat) (x3 : Int) (d_4 : Int) : compF Go.Proofs.Try.prog Go.Proofs.Try.f159 [] (Go.Proofs.Try.f159.body.getD .skip) [.agg #[.slice s1p s1l s1c, .slice s2p s2l s2c, .int .u64 x3], .int .u64 d_4] k = F159 k s1p s1l s1c s2p s2l s2c x3 d_4 := by kernel_rfl
theorem F159_calls {s1p : Option Addr} {s1l : Nat} {s1c : Nat} {s2p : Option Addr} {s2l : Nat} {s2c : Nat} {x3 : Int} {d_4 : Int} {w : World} {R : Ending → World → Prop} (h : F159 (fun v w => R (.returned v) w) s1p s1l s1c s2p s2l s2c x3 d_4 w) : Calls Go.Proofs.Try.prog 159 #[.agg #[.slice s1p s1l s1c, .slice s2p s2l s2c, .int .u64 x3], .int .u64 d_4] w R :=
  calls_of_compF noNum follows [] (f := 159) (fn := Go.Proofs.Try.f159) (body := Go.Proofs.Try.f159.body.getD .skip) (args := [.agg #[.slice s1p s1l s1c, .slice s2p s2l s2c, .int .u64 x3], .int .u64 d_4]) rfl rfl (Nat.le_of_ble_eq_true rfl) ((congrFun (F159_eq _ s1p s1l s1c s2p s2l s2c x3 d_4) w).mpr h)
theorem F159_call {s1p : Option Addr} {s1l : Nat} {s1c : Nat} {s2p : Option Addr} {s2l : Nat} {s2c : Nat} {x3 : Int} {d_4 : Int} {w : World} {g : Fn W (RTy.leaves (.s (.one (.int .i64))))} (h : F159 (fun v => Back (.s (.one (.int .i64))) g (.returned v)) s1p s1l s1c s2p s2l s2c x3 d_4 w) : CallT Go.Proofs.Try.prog 159 [.agg #[.slice s1p s1l s1c, .slice s2p s2l s2c, .int .u64 x3], .int .u64 d_4] (.s (.one (.int .i64))) g w := F159_calls h

/-! ## impl.dots -/
def F67_L1 (k : Value → W) (again6 : Option Addr → Nat → Nat → Option Addr → Nat → Nat → Int → Int → W) (out_2p : Option Addr) (out_2l : Nat) (out_2c : Nat) (s3p : Option Addr) (s3l : Nat) (s3c : Nat) (x4 : Int) (x5 : Int) : W :=
 BIf (decide (x5 < x4)) (
  NN s3p fun a7 =>
  Req (0 ≤ x5 ∧ x5 < ((s3l : Nat) : Int)) <|
  LoadT .slice ((a7.add (x5.toNat * 2)).add 0) fun s8p s8l s8c =>
  LoadT (.int .i64) ((a7.add (x5.toNat * 2)).add 1) fun x9 =>
  New [.slice none 0 0, .int .i64 0] 87 fun n10 =>
  Store1 ⟨n10, 0, none⟩ (.slice s8p s8l s8c) <|
  Store1 ⟨n10, 1, none⟩ (.int .i64 x9) <|
  LoadT .slice ⟨n10, 0, none⟩ fun s11p s11l s11c =>
  LoadT (.int .i64) ⟨n10, 1, none⟩ fun x12 =>
  RawT Go.Proofs.Try.prog (Instr.buildSlice 143 1 [(0, .iface 192 (.agg #[.slice s11p s11l s11c, .int .i64 x12]))].toArray) (.s (.one .slice)) fun s13p s13l s13c =>
  NextT Go.Proofs.Try.prog (builtin .append #[143, 143] 143 [false, false].toArray [.slice out_2p out_2l out_2c, .slice s13p s13l s13c].toArray) (.s (.one .slice)) fun s14p s14l s14c =>
  again6 s14p s14l s14c s3p s3l s3c x4 (addI .i64 x5 1)) (
  k (.slice out_2p out_2l out_2c))
theorem F67_L1_rule {k : Value → W} (I : Option Addr → Nat → Nat → Option Addr → Nat → Nat → Int → Int → W) (μ : Option Addr → Nat → Nat → Option Addr → Nat → Nat → Int → Int → World → Nat)
  (hr : ∀ (out_2p : Option Addr) (out_2l : Nat) (out_2c : Nat) (s3p : Option Addr) (s3l : Nat) (s3c : Nat) (x4 : Int) (x5 : Int) (w : World), I out_2p out_2l out_2c s3p s3l s3c x4 x5 w → F67_L1 k (fun out_2p' out_2l' out_2c' s3p' s3l' s3c' x4' x5' w' => I out_2p' out_2l' out_2c' s3p' s3l' s3c' x4' x5' w' ∧ μ out_2p' out_2l' out_2c' s3p' s3l' s3c' x4' x5' w' < μ out_2p out_2l out_2c s3p s3l s3c x4 x5 w) out_2p out_2l out_2c s3p s3l s3c x4 x5 w)
  {w : World} {out_2p : Option Addr} {out_2l : Nat} {out_2c : Nat} {s3p : Option Addr} {s3l : Nat} {s3c : Nat} {x4 : Int} {x5 : Int} (h : I out_2p out_2l out_2c s3p s3l s3c x4 x5 w) : Loop [.slice, .slice, (.int .i64), (.int .i64)] (F67_L1 k) out_2p out_2l out_2c s3p s3l s3c x4 x5 w :=
  Loop_intro (ts := [.slice, .slice, (.int .i64), (.int .i64)]) (s := ((out_2p, out_2l, out_2c), (s3p, s3l, s3c), x4, x5, ())) (fun s w => I s.1.1 s.1.2.1 s.1.2.2 s.2.1.1 s.2.1.2.1 s.2.1.2.2 s.2.2.1 s.2.2.2.1 w) (fun s w => μ s.1.1 s.1.2.1 s.1.2.2 s.2.1.1 s.2.1.2.1 s.2.1.2.2 s.2.2.1 s.2.2.2.1 w) h (fun s w h => hr s.1.1 s.1.2.1 s.1.2.2 s.2.1.1 s.2.1.2.1 s.2.1.2.2 s.2.2.1 s.2.2.2.1 w h)
def F67 (k : Value → W) (l_1p : Option Addr) (l_1l : Nat) (l_1c : Nat) : W :=
 Loop [.slice, .slice, (.int .i64), (.int .i64)] (F67_L1 k) none 0 0 l_1p l_1l l_1c ((l_1l : Nat) : Int) 0
theorem F67_eq (k : Value → W) (l_1p : Option Addr) (l_1l : Nat) (l_1c : Nat) : compF Go.Proofs.Try.prog Go.Proofs.Try.f67 [(3, [(3, .slice), (6, .slice), (7, (.int .i64)), (8, (.int .i64))])] (Go.Proofs.Try.f67.body.getD .skip) [.slice l_1p l_1l l_1c] k = F67 k l_1p l_1l l_1c := by kernel_rfl
theorem F67_calls {l_1p : Option Addr} {l_1l : Nat} {l_1c : Nat} {w : World} {R : Ending → World → Prop} (h : F67 (fun v w => R (.returned v) w) l_1p l_1l l_1c w) : Calls Go.Proofs.Try.prog 67 #[.slice l_1p l_1l l_1c] w R :=
  calls_of_compF noNum follows [(3, [(3, .slice), (6, .slice), (7, (.int .i64)), (8, (.int .i64))])] (f := 67) (fn := Go.Proofs.Try.f67) (body := Go.Proofs.Try.f67.body.getD .skip) (args := [.slice l_1p l_1l l_1c]) rfl rfl (Nat.le_of_ble_eq_true rfl) ((congrFun (F67_eq _ l_1p l_1l l_1c) w).mpr h)
theorem F67_call {l_1p : Option Addr} {l_1l : Nat} {l_1c : Nat} {w : World} {g : Fn W (RTy.leaves (.s (.one .slice)))} (h : F67 (fun v => Back (.s (.one .slice)) g (.returned v)) l_1p l_1l l_1c w) : CallT Go.Proofs.Try.prog 67 [.slice l_1p l_1l l_1c] (.s (.one .slice)) g w := F67_calls h

/-! ## impl.tellDots -/
def F86_L1 (k : Value → W) (again7 : Option Addr → Nat → Nat → Option Addr → Nat → Nat → Option Addr → Nat → Nat → Int → Int → W) (out_2p : Option Addr) (out_2l : Nat) (out_2c : Nat) (have_3p : Option Addr) (have_3l : Nat) (have_3c : Nat) (s4p : Option Addr) (s4l : Nat) (s4c : Nat) (x5 : Int) (x6 : Int) : W :=
 BIf (decide (x6 < x5)) (
  NN s4p fun a8 =>
  Req (0 ≤ x6 ∧ x6 < ((s4l : Nat) : Int)) <|
  LoadT .any (a8.add x6.toNat) fun v9 =>
  RawS Go.Proofs.Try.prog (Instr.typeAssert v9 153 192 true) (.tup [(.agg [.slice, (.int .i64)]), (.one .bool)]) fun s10p s10l s10c x11 b12 =>
  New [.slice none 0 0, .int .i64 0] 192 fun n13 =>
  Store1 ⟨n13, 0, none⟩ (.slice s10p s10l s10c) <|
  Store1 ⟨n13, 1, none⟩ (.int .i64 x11) <|
  LoadT .slice ⟨n13, 0, none⟩ fun s14p s14l s14c =>
  LoadT (.int .i64) ⟨n13, 1, none⟩ fun x15 =>
  RawT Go.Proofs.Try.prog (Instr.buildSlice 46 1 [(0, .agg #[.slice s14p s14l s14c, .int .i64 x15])].toArray) (.s (.one .slice)) fun s16p s16l s16c =>
  NextT Go.Proofs.Try.prog (builtin .append #[46, 46] 46 [false, false].toArray [.slice out_2p out_2l out_2c, .slice s16p s16l s16c].toArray) (.s (.one .slice)) fun s17p s17l s17c =>
  RawT Go.Proofs.Try.prog (Instr.buildSlice 32 1 [(0, .bool b12)].toArray) (.s (.one .slice)) fun s18p s18l s18c =>
  NextT Go.Proofs.Try.prog (builtin .append #[32, 32] 32 [false, false].toArray [.slice have_3p have_3l have_3c, .slice s18p s18l s18c].toArray) (.s (.one .slice)) fun s19p s19l s19c =>
  again7 s17p s17l s17c s19p s19l s19c s4p s4l s4c x5 (addI .i64 x6 1)) (
  k (.tuple #[.slice out_2p out_2l out_2c, .slice have_3p have_3l have_3c]))
theorem F86_L1_rule {k : Value → W} (I : Option Addr → Nat → Nat → Option Addr → Nat → Nat → Option Addr → Nat → Nat → Int → Int → W) (μ : Option Addr → Nat → Nat → Option Addr → Nat → Nat → Option Addr → Nat → Nat → Int → Int → World → Nat)
  (hr : ∀ (out_2p : Option Addr) (out_2l : Nat) (out_2c : Nat) (have_3p : Option Addr) (have_3l : Nat) (have_3c : Nat) (s4p : Option Addr) (s4l : Nat) (s4c : Nat) (x5 : Int) (x6 : Int) (w : World), I out_2p out_2l out_2c have_3p have_3l have_3c s4p s4l s4c x5 x6 w → F86_L1 k (fun out_2p' out_2l' out_2c' have_3p' have_3l' have_3c' s4p' s4l' s4c' x5' x6' w' => I out_2p' out_2l' out_2c' have_3p' have_3l' have_3c' s4p' s4l' s4c' x5' x6' w' ∧ μ out_2p' out_2l' out_2c' have_3p' have_3l' have_3c' s4p' s4l' s4c' x5' x6' w' < μ out_2p out_2l out_2c have_3p have_3l have_3c s4p s4l s4c x5 x6 w) out_2p out_2l out_2c have_3p have_3l have_3c s4p s4l s4c x5 x6 w)
  {w : World} {out_2p : Option Addr} {out_2l : Nat} {out_2c : Nat} {have_3p : Option Addr} {have_3l : Nat} {have_3c : Nat} {s4p : Option Addr} {s4l : Nat} {s4c : Nat} {x5 : Int} {x6 : Int} (h : I out_2p out_2l out_2c have_3p have_3l have_3c s4p s4l s4c x5 x6 w) : Loop [.slice, .slice, .slice, (.int .i64), (.int .i64)] (F86_L1 k) out_2p out_2l out_2c have_3p have_3l have_3c s4p s4l s4c x5 x6 w :=
  Loop_intro (ts := [.slice, .slice, .slice, (.int .i64), (.int .i64)]) (s := ((out_2p, out_2l, out_2c), (have_3p, have_3l, have_3c), (s4p, s4l, s4c), x5, x6, ())) (fun s w => I s.1.1 s.1.2.1 s.1.2.2 s.2.1.1 s.2.1.2.1 s.2.1.2.2 s.2.2.1.1 s.2.2.1.2.1 s.2.2.1.2.2 s.2.2.2.1 s.2.2.2.2.1 w) (fun s w => μ s.1.1 s.1.2.1 s.1.2.2 s.2.1.1 s.2.1.2.1 s.2.1.2.2 s.2.2.1.1 s.2.2.1.2.1 s.2.2.1.2.2 s.2.2.2.1 s.2.2.2.2.1 w) h (fun s w h => hr s.1.1 s.1.2.1 s.1.2.2 s.2.1.1 s.2.1.2.1 s.2.1.2.2 s.2.2.1.1 s.2.2.1.2.1 s.2.2.1.2.2 s.2.2.2.1 s.2.2.2.2.1 w h)
def F86 (k : Value → W) (l_1p : Option Addr) (l_1l : Nat) (l_1c : Nat) : W :=
 Loop [.slice, .slice, .slice, (.int .i64), (.int .i64)] (F86_L1 k) none 0 0 none 0 0 l_1p l_1l l_1c ((l_1l : Nat) : Int) 0
theorem F86_eq (k : Value → W) (l_1p : Option Addr) (l_1l : Nat) (l_1c : Nat) : compF Go.Proofs.Try.prog Go.Proofs.Try.f86 [(4, [(4, .slice), (5, .slice), (10, .slice), (11, (.int .i64)), (12, (.int .i64))])] (Go.Proofs.Try.f86.body.getD .skip) [.slice l_1p l_1l l_1c] k = F86 k l_1p l_1l l_1c := by kernel_rfl
theorem F86_calls {l_1p : Option Addr} {l_1l : Nat} {l_1c : Nat} {w : World} {R : Ending → World → Prop} (h : F86 (fun v w => R (.returned v) w) l_1p l_1l l_1c w) : Calls Go.Proofs.Try.prog 86 #[.slice l_1p l_1l l_1c] w R :=
  calls_of_compF noNum follows [(4, [(4, .slice), (5, .slice), (10, .slice), (11, (.int .i64)), (12, (.int .i64))])] (f := 86) (fn := Go.Proofs.Try.f86) (body := Go.Proofs.Try.f86.body.getD .skip) (args := [.slice l_1p l_1l l_1c]) rfl rfl (Nat.le_of_ble_eq_true rfl) ((congrFun (F86_eq _ l_1p l_1l l_1c) w).mpr h)
theorem F86_call {l_1p : Option Addr} {l_1l : Nat} {l_1c : Nat} {w : World} {g : Fn W (RTy.leaves (.tup [(.one .slice), (.one .slice)]))} (h : F86 (fun v => Back (.tup [(.one .slice), (.one .slice)]) g (.returned v)) l_1p l_1l l_1c w) : CallT Go.Proofs.Try.prog 86 [.slice l_1p l_1l l_1c] (.tup [(.one .slice), (.one .slice)]) g w := F86_calls h

/-! ## impl.answerDots -/
def F66 (k : Value → W) (l_1p : Option Addr) (l_1l : Nat) (l_1c : Nat) : W :=
 New [.slice none 0 0, .slice none 0 0, .slice none 0 0, .int .u64 0] 59 fun n2 =>
 New [.slice none 0 0, .slice none 0 0, .slice none 0 0, .int .u64 0] 59 fun n3 =>
 CallT Go.Proofs.Try.prog 86 [.slice l_1p l_1l l_1c] (.tup [(.one .slice), (.one .slice)]) fun s4p s4l s4c s5p s5l s5c =>
 Store1 ⟨n3, 0, none⟩ (.slice s4p s4l s4c) <|
 Store1 ⟨n3, 1, none⟩ (.slice s5p s5l s5c) <|
 LoadT .slice ⟨n3, 0, none⟩ fun s6p s6l s6c =>
 LoadT .slice ⟨n3, 1, none⟩ fun s7p s7l s7c =>
 LoadT .slice ⟨n3, 2, none⟩ fun s8p s8l s8c =>
 LoadT (.int .u64) ⟨n3, 3, none⟩ fun x9 =>
 Store1 ⟨n2, 0, none⟩ (.slice s6p s6l s6c) <|
 Store1 ⟨n2, 1, none⟩ (.slice s7p s7l s7c) <|
 Store1 ⟨n2, 2, none⟩ (.slice s8p s8l s8c) <|
 Store1 ⟨n2, 3, none⟩ (.int .u64 x9) <|
 LoadT .slice ⟨n2, 0, none⟩ fun s10p s10l s10c =>
 LoadT .slice ⟨n2, 1, none⟩ fun s11p s11l s11c =>
 LoadT .slice ⟨n2, 2, none⟩ fun s12p s12l s12c =>
 LoadT (.int .u64) ⟨n2, 3, none⟩ fun x13 =>
 k (.agg #[.slice s10p s10l s10c, .slice s11p s11l s11c, .slice s12p s12l s12c, .int .u64 x13])
theorem F66_eq (k : Value → W) (l_1p : Option Addr) (l_1l : Nat) (l_1c : Nat) : compF Go.Proofs.Try.prog Go.Proofs.Try.f66 [] (Go.Proofs.Try.f66.body.getD .skip) [.slice l_1p l_1l l_1c] k = F66 k l_1p l_1l l_1c := by kernel_rfl
theorem F66_calls {l_1p : Option Addr} {l_1l : Nat} {l_1c : Nat} {w : World} {R : Ending → World → Prop} (h : F66 (fun v w => R (.returned v) w) l_1p l_1l l_1c w) : Calls Go.Proofs.Try.prog 66 #[.slice l_1p l_1l l_1c] w R :=
  calls_of_compF noNum follows [] (f := 66) (fn := Go.Proofs.Try.f66) (body := Go.Proofs.Try.f66.body.getD .skip) (args := [.slice l_1p l_1l l_1c]) rfl rfl (Nat.le_of_ble_eq_true rfl) ((congrFun (F66_eq _ l_1p l_1l l_1c) w).mpr h)
theorem F66_call {l_1p : Option Addr} {l_1l : Nat} {l_1c : Nat} {w : World} {g : Fn W (RTy.leaves (.s (.agg [.slice, .slice, .slice, (.int .u64)])))} (h : F66 (fun v => Back (.s (.agg [.slice, .slice, .slice, (.int .u64)])) g (.returned v)) l_1p l_1l l_1c w) : CallT Go.Proofs.Try.prog 66 [.slice l_1p l_1l l_1c] (.s (.agg [.slice, .slice, .slice, (.int .u64)])) g w := F66_calls h

/-! ## impl.between -/
def F68 (k : Value → W) (x1 : Int) (x2 : Int) (s3p : Option Addr) (s3l : Nat) (s3c : Nat) (s4p : Option Addr) (s4l : Nat) (s4c : Nat) (s5p : Option Addr) (s5l : Nat) (s5c : Nat) (x6 : Int) (x7 : Int) (x8 : Int) (x9 : Int) : W :=
 New [.int .i64 x1, .int .i64 x2, .slice s3p s3l s3c, .slice s4p s4l s4c, .slice s5p s5l s5c, .int .u64 x6, .int .i64 x7, .int .i64 x8, .int .i64 x9] 49 fun n10 =>
 LoadT .slice ⟨n10, 3, none⟩ fun s11p s11l s11c =>
 LoadT .slice ⟨n10, 4, none⟩ fun s12p s12l s12c =>
 k (.iface 181 (.agg #[.slice s11p s11l s11c, .slice s12p s12l s12c, .int .u64 0]))
theorem F68_eq (k : Value → W) (x1 : Int) (x2 : Int) (s3p : Option Addr) (s3l : Nat) (s3c : Nat) (s4p : Option Addr) (s4l : Nat) (s4c : Nat) (s5p : Option Addr) (s5l : Nat) (s5c : Nat) (x6 : Int) (x7 : Int) (x8 : Int) (x9 : Int) : compF Go.Proofs.Try.prog Go.Proofs.Try.f68 [] (Go.Proofs.Try.f68.body.getD .skip) [.agg #[.int .i64 x1, .int .i64 x2, .slice s3p s3l s3c, .slice s4p s4l s4c, .slice s5p s5l s5c, .int .u64 x6, .int .i64 x7, .int .i64 x8, .int .i64 x9]] k = F68 k x1 x2 s3p s3l s3c s4p s4l s4c s5p s5l s5c x6 x7 x8 x9 := by kernel_rfl
theorem F68_calls {x1 : Int} {x2 : Int} {s3p : Option Addr} {s3l : Nat} {s3c : Nat} {s4p : Option Addr} {s4l : Nat} {s4c : Nat} {s5p : Option Addr} {s5l : Nat} {s5c : Nat} {x6 : Int} {x7 : Int} {x8 : Int} {x9 : Int} {w : World} {R : Ending → World → Prop} (h : F68 (fun v w => R (.returned v) w) x1 x2 s3p s3l s3c s4p s4l s4c s5p s5l s5c x6 x7 x8 x9 w) : Calls Go.Proofs.Try.prog 68 #[.agg #[.int .i64 x1, .int .i64 x2, .slice s3p s3l s3c, .slice s4p s4l s4c, .slice s5p s5l s5c, .int .u64 x6, .int .i64 x7, .int .i64 x8, .int .i64 x9]] w R :=
  calls_of_compF noNum follows [] (f := 68) (fn := Go.Proofs.Try.f68) (body := Go.Proofs.Try.f68.body.getD .skip) (args := [.agg #[.int .i64 x1, .int .i64 x2, .slice s3p s3l s3c, .slice s4p s4l s4c, .slice s5p s5l s5c, .int .u64 x6, .int .i64 x7, .int .i64 x8, .int .i64 x9]]) rfl rfl (Nat.le_of_ble_eq_true rfl) ((congrFun (F68_eq _ x1 x2 s3p s3l s3c s4p s4l s4c s5p s5l s5c x6 x7 x8 x9) w).mpr h)
theorem F68_call {x1 : Int} {x2 : Int} {s3p : Option Addr} {s3l : Nat} {s3c : Nat} {s4p : Option Addr} {s4l : Nat} {s4c : Nat} {s5p : Option Addr} {s5l : Nat} {s5c : Nat} {x6 : Int} {x7 : Int} {x8 : Int} {x9 : Int} {w : World} {g : Fn W (RTy.leaves (.s (.one .any)))} (h : F68 (fun v => Back (.s (.one .any)) g (.returned v)) x1 x2 s3p s3l s3c s4p s4l s4c s5p s5l s5c x6 x7 x8 x9 w) : CallT Go.Proofs.Try.prog 68 [.agg #[.int .i64 x1, .int .i64 x2, .slice s3p s3l s3c, .slice s4p s4l s4c, .slice s5p s5l s5c, .int .u64 x6, .int .i64 x7, .int .i64 x8, .int .i64 x9]] (.s (.one .any)) g w := F68_calls h

/-! ## impl.dotStep$1 -/
def F69 (k : Value → W) (x_1 : Value) (a2 : Addr) (a3 : Addr) : W :=
 LoadT .slice a2 fun s4p s4l s4c =>
 RawT Go.Proofs.Try.prog (Instr.buildSlice 144 1 [(0, x_1)].toArray) (.s (.one .slice)) fun s5p s5l s5c =>
 NextT Go.Proofs.Try.prog (builtin .append #[144, 144] 144 [false, false].toArray [.slice s4p s4l s4c, .slice s5p s5l s5c].toArray) (.s (.one .slice)) fun s6p s6l s6c =>
 Store1 a2 (.slice s6p s6l s6c) <|
 LoadT .slice a2 fun s7p s7l s7c =>
 LoadT (.int .i64) (a3.add 8) fun x8 =>
 Bind (decide (((s7l : Nat) : Int) ≤ x8)) fun y9 =>
 k (.bool y9)
theorem F69_eq (k : Value → W) (x_1 : Value) (a2 : Addr) (a3 : Addr) : compF Go.Proofs.Try.prog Go.Proofs.Try.f69 [] (Go.Proofs.Try.f69.body.getD .skip) [x_1, .pointer (some a2), .pointer (some a3)] k = F69 k x_1 a2 a3 := by kernel_rfl
theorem F69_calls {x_1 : Value} {a2 : Addr} {a3 : Addr} {w : World} {R : Ending → World → Prop} (h : F69 (fun v w => R (.returned v) w) x_1 a2 a3 w) : Calls Go.Proofs.Try.prog 69 #[x_1, .pointer (some a2), .pointer (some a3)] w R :=
  calls_of_compF noNum follows [] (f := 69) (fn := Go.Proofs.Try.f69) (body := Go.Proofs.Try.f69.body.getD .skip) (args := [x_1, .pointer (some a2), .pointer (some a3)]) rfl rfl (Nat.le_of_ble_eq_true rfl) ((congrFun (F69_eq _ x_1 a2 a3) w).mpr h)
theorem F69_call {x_1 : Value} {a2 : Addr} {a3 : Addr} {w : World} {g : Fn W (RTy.leaves (.s (.one .bool)))} (h : F69 (fun v => Back (.s (.one .bool)) g (.returned v)) x_1 a2 a3 w) : CallT Go.Proofs.Try.prog 69 [x_1, .pointer (some a2), .pointer (some a3)] (.s (.one .bool)) g w := F69_calls h

/-! ## impl.dotStep -/
def F33 (k : Value → W) (t_1 : Value) (x2 : Int) (x3 : Int) (s4p : Option Addr) (s4l : Nat) (s4c : Nat) (s5p : Option Addr) (s5l : Nat) (s5c : Nat) (s6p : Option Addr) (s6l : Nat) (s6c : Nat) (x7 : Int) (x8 : Int) (x9 : Int) (x10 : Int) : W :=
 New [.int .i64 x2, .int .i64 x3, .slice s4p s4l s4c, .slice s5p s5l s5c, .slice s6p s6l s6c, .int .u64 x7, .int .i64 x8, .int .i64 x9, .int .i64 x10] 49 fun n11 =>
 New [.slice none 0 0, .slice none 0 0, .slice none 0 0, .int .u64 0] 59 fun n12 =>
 LoadT (.int .i64) ⟨n11, 0, none⟩ fun x13 =>
 BIf (x13 == 1) (
  Drw <|
  LoadT .slice ⟨n11, 2, none⟩ fun s14p s14l s14c =>
  MethOk Go.Proofs.Try.prog (.func (.method "Add") #[t_1] #[]) <|
  CallT Go.Proofs.Try.prog 67 [.slice s14p s14l s14c] (.s (.one .slice)) fun s15p s15l s15c =>
  NextT Go.Proofs.Try.prog (callMethod t_1 "Add" [.slice s15p s15l s15c].toArray) (.s (.one .slice)) fun s16p s16l s16c =>
  Chk1 ⟨n11, 2, none⟩ (.slice s14p s14l s14c) <|
  CallT Go.Proofs.Try.prog 66 [.slice s16p s16l s16c] (.s (.agg [.slice, .slice, .slice, (.int .u64)])) fun s17p s17l s17c s18p s18l s18c s19p s19l s19c x20 =>
  Chk1 ⟨n11, 2, none⟩ (.slice s14p s14l s14c) <|
  Store1 ⟨n12, 0, none⟩ (.slice s17p s17l s17c) <|
  Store1 ⟨n12, 1, none⟩ (.slice s18p s18l s18c) <|
  Store1 ⟨n12, 2, none⟩ (.slice s19p s19l s19c) <|
  Store1 ⟨n12, 3, none⟩ (.int .u64 x20) <|
  LoadT .slice ⟨n12, 0, none⟩ fun s21p s21l s21c =>
  LoadT .slice ⟨n12, 1, none⟩ fun s22p s22l s22c =>
  LoadT .slice ⟨n12, 2, none⟩ fun s23p s23l s23c =>
  LoadT (.int .u64) ⟨n12, 3, none⟩ fun x24 =>
  k (.agg #[.slice s21p s21l s21c, .slice s22p s22l s22c, .slice s23p s23l s23c, .int .u64 x24])) (
  BIf (x13 == 2) (
   Drw <|
   LoadT .slice ⟨n11, 2, none⟩ fun s25p s25l s25c =>
   MethOk Go.Proofs.Try.prog (.func (.method "Delete") #[t_1] #[]) <|
   CallT Go.Proofs.Try.prog 67 [.slice s25p s25l s25c] (.s (.one .slice)) fun s26p s26l s26c =>
   NextT Go.Proofs.Try.prog (callMethod t_1 "Delete" [.slice s26p s26l s26c].toArray) (.s (.one .slice)) fun s27p s27l s27c =>
   Chk1 ⟨n11, 2, none⟩ (.slice s25p s25l s25c) <|
   CallT Go.Proofs.Try.prog 66 [.slice s27p s27l s27c] (.s (.agg [.slice, .slice, .slice, (.int .u64)])) fun s28p s28l s28c s29p s29l s29c s30p s30l s30c x31 =>
   Chk1 ⟨n11, 2, none⟩ (.slice s25p s25l s25c) <|
   Store1 ⟨n12, 0, none⟩ (.slice s28p s28l s28c) <|
   Store1 ⟨n12, 1, none⟩ (.slice s29p s29l s29c) <|
   Store1 ⟨n12, 2, none⟩ (.slice s30p s30l s30c) <|
   Store1 ⟨n12, 3, none⟩ (.int .u64 x31) <|
   LoadT .slice ⟨n12, 0, none⟩ fun s32p s32l s32c =>
   LoadT .slice ⟨n12, 1, none⟩ fun s33p s33l s33c =>
   LoadT .slice ⟨n12, 2, none⟩ fun s34p s34l s34c =>
   LoadT (.int .u64) ⟨n12, 3, none⟩ fun x35 =>
   k (.agg #[.slice s32p s32l s32c, .slice s33p s33l s33c, .slice s34p s34l s34c, .int .u64 x35])) (
   BIf (x13 == 3) (
    Drw <|
    LoadT .slice ⟨n11, 2, none⟩ fun s36p s36l s36c =>
    MethOk Go.Proofs.Try.prog (.func (.method "Get") #[t_1] #[]) <|
    CallT Go.Proofs.Try.prog 67 [.slice s36p s36l s36c] (.s (.one .slice)) fun s37p s37l s37c =>
    NextT Go.Proofs.Try.prog (callMethod t_1 "Get" [.slice s37p s37l s37c].toArray) (.s (.one .slice)) fun s38p s38l s38c =>
    Chk1 ⟨n11, 2, none⟩ (.slice s36p s36l s36c) <|
    CallT Go.Proofs.Try.prog 66 [.slice s38p s38l s38c] (.s (.agg [.slice, .slice, .slice, (.int .u64)])) fun s39p s39l s39c s40p s40l s40c s41p s41l s41c x42 =>
    Chk1 ⟨n11, 2, none⟩ (.slice s36p s36l s36c) <|
    Store1 ⟨n12, 0, none⟩ (.slice s39p s39l s39c) <|
    Store1 ⟨n12, 1, none⟩ (.slice s40p s40l s40c) <|
    Store1 ⟨n12, 2, none⟩ (.slice s41p s41l s41c) <|
    Store1 ⟨n12, 3, none⟩ (.int .u64 x42) <|
    LoadT .slice ⟨n12, 0, none⟩ fun s43p s43l s43c =>
    LoadT .slice ⟨n12, 1, none⟩ fun s44p s44l s44c =>
    LoadT .slice ⟨n12, 2, none⟩ fun s45p s45l s45c =>
    LoadT (.int .u64) ⟨n12, 3, none⟩ fun x46 =>
    k (.agg #[.slice s43p s43l s43c, .slice s44p s44l s44c, .slice s45p s45l s45c, .int .u64 x46])) (
    BIf (x13 == 4) (
     Drw <|
     LoadT (.int .i64) ⟨n11, 0, none⟩ fun x47 =>
     LoadT (.int .i64) ⟨n11, 1, none⟩ fun x48 =>
     LoadT .slice ⟨n11, 2, none⟩ fun s49p s49l s49c =>
     LoadT .slice ⟨n11, 3, none⟩ fun s50p s50l s50c =>
     LoadT .slice ⟨n11, 4, none⟩ fun s51p s51l s51c =>
     LoadT (.int .u64) ⟨n11, 5, none⟩ fun x52 =>
     LoadT (.int .i64) ⟨n11, 6, none⟩ fun x53 =>
     LoadT (.int .i64) ⟨n11, 7, none⟩ fun x54 =>
     LoadT (.int .i64) ⟨n11, 8, none⟩ fun x55 =>
     MethOk Go.Proofs.Try.prog (.func (.method "Query") #[t_1] #[]) <|
     CallT Go.Proofs.Try.prog 68 [.agg #[.int .i64 x47, .int .i64 x48, .slice s49p s49l s49c, .slice s50p s50l s50c, .slice s51p s51l s51c, .int .u64 x52, .int .i64 x53, .int .i64 x54, .int .i64 x55]] (.s (.one .any)) fun v56 =>
     NextT Go.Proofs.Try.prog (callMethod t_1 "Query" [v56].toArray) (.s (.one .slice)) fun s57p s57l s57c =>
     Chk1 ⟨n11, 0, none⟩ (.int .i64 x47) <|
     Chk1 ⟨n11, 1, none⟩ (.int .i64 x48) <|
     Chk1 ⟨n11, 2, none⟩ (.slice s49p s49l s49c) <|
     Chk1 ⟨n11, 3, none⟩ (.slice s50p s50l s50c) <|
     Chk1 ⟨n11, 4, none⟩ (.slice s51p s51l s51c) <|
     Chk1 ⟨n11, 5, none⟩ (.int .u64 x52) <|
     Chk1 ⟨n11, 6, none⟩ (.int .i64 x53) <|
     Chk1 ⟨n11, 7, none⟩ (.int .i64 x54) <|
     Chk1 ⟨n11, 8, none⟩ (.int .i64 x55) <|
     CallT Go.Proofs.Try.prog 66 [.slice s57p s57l s57c] (.s (.agg [.slice, .slice, .slice, (.int .u64)])) fun s58p s58l s58c s59p s59l s59c s60p s60l s60c x61 =>
     Chk1 ⟨n11, 0, none⟩ (.int .i64 x47) <|
     Chk1 ⟨n11, 1, none⟩ (.int .i64 x48) <|
     Chk1 ⟨n11, 2, none⟩ (.slice s49p s49l s49c) <|
     Chk1 ⟨n11, 3, none⟩ (.slice s50p s50l s50c) <|
     Chk1 ⟨n11, 4, none⟩ (.slice s51p s51l s51c) <|
     Chk1 ⟨n11, 5, none⟩ (.int .u64 x52) <|
     Chk1 ⟨n11, 6, none⟩ (.int .i64 x53) <|
     Chk1 ⟨n11, 7, none⟩ (.int .i64 x54) <|
     Chk1 ⟨n11, 8, none⟩ (.int .i64 x55) <|
     Store1 ⟨n12, 0, none⟩ (.slice s58p s58l s58c) <|
     Store1 ⟨n12, 1, none⟩ (.slice s59p s59l s59c) <|
     Store1 ⟨n12, 2, none⟩ (.slice s60p s60l s60c) <|
     Store1 ⟨n12, 3, none⟩ (.int .u64 x61) <|
     LoadT .slice ⟨n12, 0, none⟩ fun s62p s62l s62c =>
     LoadT .slice ⟨n12, 1, none⟩ fun s63p s63l s63c =>
     LoadT .slice ⟨n12, 2, none⟩ fun s64p s64l s64c =>
     LoadT (.int .u64) ⟨n12, 3, none⟩ fun x65 =>
     k (.agg #[.slice s62p s62l s62c, .slice s63p s63l s63c, .slice s64p s64l s64c, .int .u64 x65])) (
     BIf (x13 == 5) (
      New [.slice none 0 0] 144 fun n66 =>
      Drw <|
      LoadT (.int .i64) ⟨n11, 0, none⟩ fun x67 =>
      LoadT (.int .i64) ⟨n11, 1, none⟩ fun x68 =>
      LoadT .slice ⟨n11, 2, none⟩ fun s69p s69l s69c =>
      LoadT .slice ⟨n11, 3, none⟩ fun s70p s70l s70c =>
      LoadT .slice ⟨n11, 4, none⟩ fun s71p s71l s71c =>
      LoadT (.int .u64) ⟨n11, 5, none⟩ fun x72 =>
      LoadT (.int .i64) ⟨n11, 6, none⟩ fun x73 =>
      LoadT (.int .i64) ⟨n11, 7, none⟩ fun x74 =>
      LoadT (.int .i64) ⟨n11, 8, none⟩ fun x75 =>
      MethOk Go.Proofs.Try.prog (.func (.method "Apply") #[t_1] #[]) <|
      CallT Go.Proofs.Try.prog 68 [.agg #[.int .i64 x67, .int .i64 x68, .slice s69p s69l s69c, .slice s70p s70l s70c, .slice s71p s71l s71c, .int .u64 x72, .int .i64 x73, .int .i64 x74, .int .i64 x75]] (.s (.one .any)) fun v76 =>
      NextT Go.Proofs.Try.prog (callMethod t_1 "Apply" [v76, .func (.func 69) #[] #[.pointer (some ⟨n66, 0, none⟩), .pointer (some ⟨n11, 0, none⟩)]].toArray) (.tup []) <|
      Chk1 ⟨n11, 0, none⟩ (.int .i64 x67) <|
      Chk1 ⟨n11, 1, none⟩ (.int .i64 x68) <|
      Chk1 ⟨n11, 2, none⟩ (.slice s69p s69l s69c) <|
      Chk1 ⟨n11, 3, none⟩ (.slice s70p s70l s70c) <|
      Chk1 ⟨n11, 4, none⟩ (.slice s71p s71l s71c) <|
      Chk1 ⟨n11, 5, none⟩ (.int .u64 x72) <|
      Chk1 ⟨n11, 6, none⟩ (.int .i64 x73) <|
      Chk1 ⟨n11, 7, none⟩ (.int .i64 x74) <|
      Chk1 ⟨n11, 8, none⟩ (.int .i64 x75) <|
      LoadT .slice ⟨n66, 0, none⟩ fun s77p s77l s77c =>
      CallT Go.Proofs.Try.prog 66 [.slice s77p s77l s77c] (.s (.agg [.slice, .slice, .slice, (.int .u64)])) fun s78p s78l s78c s79p s79l s79c s80p s80l s80c x81 =>
      Store1 ⟨n12, 0, none⟩ (.slice s78p s78l s78c) <|
      Store1 ⟨n12, 1, none⟩ (.slice s79p s79l s79c) <|
      Store1 ⟨n12, 2, none⟩ (.slice s80p s80l s80c) <|
      Store1 ⟨n12, 3, none⟩ (.int .u64 x81) <|
      LoadT .slice ⟨n12, 0, none⟩ fun s82p s82l s82c =>
      LoadT .slice ⟨n12, 1, none⟩ fun s83p s83l s83c =>
      LoadT .slice ⟨n12, 2, none⟩ fun s84p s84l s84c =>
      LoadT (.int .u64) ⟨n12, 3, none⟩ fun x85 =>
      k (.agg #[.slice s82p s82l s82c, .slice s83p s83l s83c, .slice s84p s84l s84c, .int .u64 x85])) (
      BIf (x13 == 6) (
       NextT Go.Proofs.Try.prog (callMethod t_1 "Len" [].toArray) (.s (.one (.int .u64))) fun x86 =>
       Store1 ⟨n12, 0, none⟩ (.slice none 0 0) <|
       Store1 ⟨n12, 1, none⟩ (.slice none 0 0) <|
       Store1 ⟨n12, 2, none⟩ (.slice none 0 0) <|
       Store1 ⟨n12, 3, none⟩ (.int .u64 x86) <|
       LoadT .slice ⟨n12, 0, none⟩ fun s87p s87l s87c =>
       LoadT .slice ⟨n12, 1, none⟩ fun s88p s88l s88c =>
       LoadT .slice ⟨n12, 2, none⟩ fun s89p s89l s89c =>
       LoadT (.int .u64) ⟨n12, 3, none⟩ fun x90 =>
       k (.agg #[.slice s87p s87l s87c, .slice s88p s88l s88c, .slice s89p s89l s89c, .int .u64 x90])) (
       BIf (x13 == 7) (
        LoadT (.int .u64) ⟨n11, 5, none⟩ fun x91 =>
        LoadT (.int .i64) ⟨n11, 6, none⟩ fun x92 =>
        LoadT (.int .i64) ⟨n11, 7, none⟩ fun x93 =>
        NextT Go.Proofs.Try.prog (callMethod t_1 "InsertAtDimension" [.int .u64 x91, .int .i64 x92, .int .i64 x93].toArray) (.tup [(.one .slice), (.one .slice)]) fun s94p s94l s94c s95p s95l s95c =>
        CallT Go.Proofs.Try.prog 70 [.slice s94p s94l s94c, .slice s95p s95l s95c] (.s (.agg [.slice, .slice, .slice, (.int .u64)])) fun s96p s96l s96c s97p s97l s97c s98p s98l s98c x99 =>
        Store1 ⟨n12, 0, none⟩ (.slice s96p s96l s96c) <|
        Store1 ⟨n12, 1, none⟩ (.slice s97p s97l s97c) <|
        Store1 ⟨n12, 2, none⟩ (.slice s98p s98l s98c) <|
        Store1 ⟨n12, 3, none⟩ (.int .u64 x99) <|
        LoadT .slice ⟨n12, 0, none⟩ fun s100p s100l s100c =>
        LoadT .slice ⟨n12, 1, none⟩ fun s101p s101l s101c =>
        LoadT .slice ⟨n12, 2, none⟩ fun s102p s102l s102c =>
        LoadT (.int .u64) ⟨n12, 3, none⟩ fun x103 =>
        k (.agg #[.slice s100p s100l s100c, .slice s101p s101l s101c, .slice s102p s102l s102c, .int .u64 x103])) (
        Store1 ⟨n12, 0, none⟩ (.slice none 0 0) <|
        Store1 ⟨n12, 1, none⟩ (.slice none 0 0) <|
        Store1 ⟨n12, 2, none⟩ (.slice none 0 0) <|
        Store1 ⟨n12, 3, none⟩ (.int .u64 0) <|
        LoadT .slice ⟨n12, 0, none⟩ fun s104p s104l s104c =>
        LoadT .slice ⟨n12, 1, none⟩ fun s105p s105l s105c =>
        LoadT .slice ⟨n12, 2, none⟩ fun s106p s106l s106c =>
        LoadT (.int .u64) ⟨n12, 3, none⟩ fun x107 =>
        k (.agg #[.slice s104p s104l s104c, .slice s105p s105l s105c, .slice s106p s106l s106c, .int .u64 x107]))))))))
theorem F33_eq (k : Value → W) (t_1 : Value) (x2 : Int) (x3 : Int) (s4p : Option Addr) (s4l : Nat) (s4c : Nat) (s5p : Option Addr) (s5l : Nat) (s5c : Nat) (s6p : Option Addr) (s6l : Nat) (s6c : Nat) (x7 : Int) (x8 : Int) (x9 : Int) (x10 : Int) : compF Go.Proofs.Try.prog Go.Proofs.Try.f33 [] (Go.Proofs.Try.f33.body.getD .skip) [t_1, .agg #[.int .i64 x2, .int .i64 x3, .slice s4p s4l s4c, .slice s5p s5l s5c, .slice s6p s6l s6c, .int .u64 x7, .int .i64 x8, .int .i64 x9, .int .i64 x10]] k = F33 k t_1 x2 x3 s4p s4l s4c s5p s5l s5c s6p s6l s6c x7 x8 x9 x10 := by kernel_rfl
theorem F33_calls {t_1 : Value} {x2 : Int} {x3 : Int} {s4p : Option Addr} {s4l : Nat} {s4c : Nat} {s5p : Option Addr} {s5l : Nat} {s5c : Nat} {s6p : Option Addr} {s6l : Nat} {s6c : Nat} {x7 : Int} {x8 : Int} {x9 : Int} {x10 : Int} {w : World} {R : Ending → World → Prop} (h : F33 (fun v w => R (.returned v) w) t_1 x2 x3 s4p s4l s4c s5p s5l s5c s6p s6l s6c x7 x8 x9 x10 w) : Calls Go.Proofs.Try.prog 33 #[t_1, .agg #[.int .i64 x2, .int .i64 x3, .slice s4p s4l s4c, .slice s5p s5l s5c, .slice s6p s6l s6c, .int .u64 x7, .int .i64 x8, .int .i64 x9, .int .i64 x10]] w R :=
  calls_of_compF noNum follows [] (f := 33) (fn := Go.Proofs.Try.f33) (body := Go.Proofs.Try.f33.body.getD .skip) (args := [t_1, .agg #[.int .i64 x2, .int .i64 x3, .slice s4p s4l s4c, .slice s5p s5l s5c, .slice s6p s6l s6c, .int .u64 x7, .int .i64 x8, .int .i64 x9, .int .i64 x10]]) rfl rfl (Nat.le_of_ble_eq_true rfl) ((congrFun (F33_eq _ t_1 x2 x3 s4p s4l s4c s5p s5l s5c s6p s6l s6c x7 x8 x9 x10) w).mpr h)
theorem F33_call {t_1 : Value} {x2 : Int} {x3 : Int} {s4p : Option Addr} {s4l : Nat} {s4c : Nat} {s5p : Option Addr} {s5l : Nat} {s5c : Nat} {s6p : Option Addr} {s6l : Nat} {s6c : Nat} {x7 : Int} {x8 : Int} {x9 : Int} {x10 : Int} {w : World} {g : Fn W (RTy.leaves (.s (.agg [.slice, .slice, .slice, (.int .u64)])))} (h : F33 (fun v => Back (.s (.agg [.slice, .slice, .slice, (.int .u64)])) g (.returned v)) t_1 x2 x3 s4p s4l s4c s5p s5l s5c s6p s6l s6c x7 x8 x9 x10 w) : CallT Go.Proofs.Try.prog 33 [t_1, .agg #[.int .i64 x2, .int .i64 x3, .slice s4p s4l s4c, .slice s5p s5l s5c, .slice s6p s6l s6c, .int .u64 x7, .int .i64 x8, .int .i64 x9, .int .i64 x10]] (.s (.agg [.slice, .slice, .slice, (.int .u64)])) g w := F33_calls h

/-! ## impl.RTRun -/
def F14_L1 (k : Value → W) (again9 : Value → Option Addr → Nat → Nat → Option Addr → Nat → Nat → Int → Int → W) (t_4 : Value) (out_5p : Option Addr) (out_5l : Nat) (out_5c : Nat) (s6p : Option Addr) (s6l : Nat) (s6c : Nat) (x7 : Int) (x8 : Int) : W :=
 BIf (decide (x8 < x7)) (
  NN s6p fun a10 =>
  Req (0 ≤ x8 ∧ x8 < ((s6l : Nat) : Int)) <|
  LoadT (.int .i64) ((a10.add (x8.toNat * 9)).add 0) fun x11 =>
  LoadT (.int .i64) ((a10.add (x8.toNat * 9)).add 1) fun x12 =>
  LoadT .slice ((a10.add (x8.toNat * 9)).add 2) fun s13p s13l s13c =>
  LoadT .slice ((a10.add (x8.toNat * 9)).add 3) fun s14p s14l s14c =>
  LoadT .slice ((a10.add (x8.toNat * 9)).add 4) fun s15p s15l s15c =>
  LoadT (.int .u64) ((a10.add (x8.toNat * 9)).add 5) fun x16 =>
  LoadT (.int .i64) ((a10.add (x8.toNat * 9)).add 6) fun x17 =>
  LoadT (.int .i64) ((a10.add (x8.toNat * 9)).add 7) fun x18 =>
  LoadT (.int .i64) ((a10.add (x8.toNat * 9)).add 8) fun x19 =>
  New [.int .i64 0, .int .i64 0, .slice none 0 0, .slice none 0 0, .slice none 0 0, .int .u64 0, .int .i64 0, .int .i64 0, .int .i64 0] 49 fun n20 =>
  Store1 ⟨n20, 0, none⟩ (.int .i64 x11) <|
  Store1 ⟨n20, 1, none⟩ (.int .i64 x12) <|
  Store1 ⟨n20, 2, none⟩ (.slice s13p s13l s13c) <|
  Store1 ⟨n20, 3, none⟩ (.slice s14p s14l s14c) <|
  Store1 ⟨n20, 4, none⟩ (.slice s15p s15l s15c) <|
  Store1 ⟨n20, 5, none⟩ (.int .u64 x16) <|
  Store1 ⟨n20, 6, none⟩ (.int .i64 x17) <|
  Store1 ⟨n20, 7, none⟩ (.int .i64 x18) <|
  Store1 ⟨n20, 8, none⟩ (.int .i64 x19) <|
  LoadT (.int .i64) ⟨n20, 0, none⟩ fun x21 =>
  LoadT (.int .i64) ⟨n20, 1, none⟩ fun x22 =>
  LoadT .slice ⟨n20, 2, none⟩ fun s23p s23l s23c =>
  LoadT .slice ⟨n20, 3, none⟩ fun s24p s24l s24c =>
  LoadT .slice ⟨n20, 4, none⟩ fun s25p s25l s25c =>
  LoadT (.int .u64) ⟨n20, 5, none⟩ fun x26 =>
  LoadT (.int .i64) ⟨n20, 6, none⟩ fun x27 =>
  LoadT (.int .i64) ⟨n20, 7, none⟩ fun x28 =>
  LoadT (.int .i64) ⟨n20, 8, none⟩ fun x29 =>
  CallT Go.Proofs.Try.prog 33 [t_4, .agg #[.int .i64 x21, .int .i64 x22, .slice s23p s23l s23c, .slice s24p s24l s24c, .slice s25p s25l s25c, .int .u64 x26, .int .i64 x27, .int .i64 x28, .int .i64 x29]] (.s (.agg [.slice, .slice, .slice, (.int .u64)])) fun s30p s30l s30c s31p s31l s31c s32p s32l s32c x33 =>
  RawT Go.Proofs.Try.prog (Instr.buildSlice 55 1 [(0, .agg #[.slice s30p s30l s30c, .slice s31p s31l s31c, .slice s32p s32l s32c, .int .u64 x33])].toArray) (.s (.one .slice)) fun s34p s34l s34c =>
  NextT Go.Proofs.Try.prog (builtin .append #[55, 55] 55 [false, false].toArray [.slice out_5p out_5l out_5c, .slice s34p s34l s34c].toArray) (.s (.one .slice)) fun s35p s35l s35c =>
  again9 t_4 s35p s35l s35c s6p s6l s6c x7 (addI .i64 x8 1)) (
  k (.slice out_5p out_5l out_5c))
theorem F14_L1_rule {k : Value → W} (I : Value → Option Addr → Nat → Nat → Option Addr → Nat → Nat → Int → Int → W) (μ : Value → Option Addr → Nat → Nat → Option Addr → Nat → Nat → Int → Int → World → Nat)
  (hr : ∀ (t_4 : Value) (out_5p : Option Addr) (out_5l : Nat) (out_5c : Nat) (s6p : Option Addr) (s6l : Nat) (s6c : Nat) (x7 : Int) (x8 : Int) (w : World), I t_4 out_5p out_5l out_5c s6p s6l s6c x7 x8 w → F14_L1 k (fun t_4' out_5p' out_5l' out_5c' s6p' s6l' s6c' x7' x8' w' => I t_4' out_5p' out_5l' out_5c' s6p' s6l' s6c' x7' x8' w' ∧ μ t_4' out_5p' out_5l' out_5c' s6p' s6l' s6c' x7' x8' w' < μ t_4 out_5p out_5l out_5c s6p s6l s6c x7 x8 w) t_4 out_5p out_5l out_5c s6p s6l s6c x7 x8 w)
  {w : World} {t_4 : Value} {out_5p : Option Addr} {out_5l : Nat} {out_5c : Nat} {s6p : Option Addr} {s6l : Nat} {s6c : Nat} {x7 : Int} {x8 : Int} (h : I t_4 out_5p out_5l out_5c s6p s6l s6c x7 x8 w) : Loop [.any, .slice, .slice, (.int .i64), (.int .i64)] (F14_L1 k) t_4 out_5p out_5l out_5c s6p s6l s6c x7 x8 w :=
  Loop_intro (ts := [.any, .slice, .slice, (.int .i64), (.int .i64)]) (s := (t_4, (out_5p, out_5l, out_5c), (s6p, s6l, s6c), x7, x8, ())) (fun s w => I s.1 s.2.1.1 s.2.1.2.1 s.2.1.2.2 s.2.2.1.1 s.2.2.1.2.1 s.2.2.1.2.2 s.2.2.2.1 s.2.2.2.2.1 w) (fun s w => μ s.1 s.2.1.1 s.2.1.2.1 s.2.1.2.2 s.2.2.1.1 s.2.2.1.2.1 s.2.2.1.2.2 s.2.2.2.1 s.2.2.2.2.1 w) h (fun s w h => hr s.1 s.2.1.1 s.2.1.2.1 s.2.1.2.2 s.2.2.1.1 s.2.2.1.2.1 s.2.2.1.2.2 s.2.2.2.1 s.2.2.2.2.1 w h)
def F14 (k : Value → W) (dims_1 : Int) (steps_2p : Option Addr) (steps_2l : Nat) (steps_2c : Nat) : W :=
 CallT Go.Proofs.Try.prog 32 [.int .u64 dims_1] (.s (.one .any)) fun v3 =>
 Loop [.any, .slice, .slice, (.int .i64), (.int .i64)] (F14_L1 k) v3 none 0 0 steps_2p steps_2l steps_2c ((steps_2l : Nat) : Int) 0
theorem F14_eq (k : Value → W) (dims_1 : Int) (steps_2p : Option Addr) (steps_2l : Nat) (steps_2c : Nat) : compF Go.Proofs.Try.prog Go.Proofs.Try.f14 [(4, [(5, .any), (6, .slice), (11, .slice), (12, (.int .i64)), (13, (.int .i64))])] (Go.Proofs.Try.f14.body.getD .skip) [.int .u64 dims_1, .slice steps_2p steps_2l steps_2c] k = F14 k dims_1 steps_2p steps_2l steps_2c := by kernel_rfl
theorem F14_calls {dims_1 : Int} {steps_2p : Option Addr} {steps_2l : Nat} {steps_2c : Nat} {w : World} {R : Ending → World → Prop} (h : F14 (fun v w => R (.returned v) w) dims_1 steps_2p steps_2l steps_2c w) : Calls Go.Proofs.Try.prog 14 #[.int .u64 dims_1, .slice steps_2p steps_2l steps_2c] w R :=
  calls_of_compF noNum follows [(4, [(5, .any), (6, .slice), (11, .slice), (12, (.int .i64)), (13, (.int .i64))])] (f := 14) (fn := Go.Proofs.Try.f14) (body := Go.Proofs.Try.f14.body.getD .skip) (args := [.int .u64 dims_1, .slice steps_2p steps_2l steps_2c]) rfl rfl (Nat.le_of_ble_eq_true rfl) ((congrFun (F14_eq _ dims_1 steps_2p steps_2l steps_2c) w).mpr h)
theorem F14_call {dims_1 : Int} {steps_2p : Option Addr} {steps_2l : Nat} {steps_2c : Nat} {w : World} {g : Fn W (RTy.leaves (.s (.one .slice)))} (h : F14 (fun v => Back (.s (.one .slice)) g (.returned v)) dims_1 steps_2p steps_2l steps_2c w) : CallT Go.Proofs.Try.prog 14 [.int .u64 dims_1, .slice steps_2p steps_2l steps_2c] (.s (.one .slice)) g w := F14_calls h

/-! ## laws.rtVals -/
def F15_L1 (k : Value → W) (again5 : Option Addr → Nat → Nat → Option Addr → Nat → Nat → Int → W) (l_2p : Option Addr) (l_2l : Nat) (l_2c : Nat) (out_3p : Option Addr) (out_3l : Nat) (out_3c : Nat) (i_4 : Int) : W :=
 BIf (decide (i_4 < ((l_2l : Nat) : Int))) (
  NN l_2p fun a6 =>
  Req (0 ≤ i_4 ∧ i_4 < ((l_2l : Nat) : Int)) <|
  LoadT (.int .i64) ((a6.add (i_4.toNat * 2)).add 1) fun x7 =>
  RawT Go.Proofs.Try.prog (Instr.buildSlice 24 1 [(0, .int .i64 x7)].toArray) (.s (.one .slice)) fun s8p s8l s8c =>
  NextT Go.Proofs.Try.prog (builtin .append #[24, 24] 24 [false, false].toArray [.slice out_3p out_3l out_3c, .slice s8p s8l s8c].toArray) (.s (.one .slice)) fun s9p s9l s9c =>
  again5 l_2p l_2l l_2c s9p s9l s9c (addI .i64 i_4 1)) (
  k (.slice out_3p out_3l out_3c))
theorem F15_L1_rule {k : Value → W} (I : Option Addr → Nat → Nat → Option Addr → Nat → Nat → Int → W) (μ : Option Addr → Nat → Nat → Option Addr → Nat → Nat → Int → World → Nat)
  (hr : ∀ (l_2p : Option Addr) (l_2l : Nat) (l_2c : Nat) (out_3p : Option Addr) (out_3l : Nat) (out_3c : Nat) (i_4 : Int) (w : World), I l_2p l_2l l_2c out_3p out_3l out_3c i_4 w → F15_L1 k (fun l_2p' l_2l' l_2c' out_3p' out_3l' out_3c' i_4' w' => I l_2p' l_2l' l_2c' out_3p' out_3l' out_3c' i_4' w' ∧ μ l_2p' l_2l' l_2c' out_3p' out_3l' out_3c' i_4' w' < μ l_2p l_2l l_2c out_3p out_3l out_3c i_4 w) l_2p l_2l l_2c out_3p out_3l out_3c i_4 w)
  {w : World} {l_2p : Option Addr} {l_2l : Nat} {l_2c : Nat} {out_3p : Option Addr} {out_3l : Nat} {out_3c : Nat} {i_4 : Int} (h : I l_2p l_2l l_2c out_3p out_3l out_3c i_4 w) : Loop [.slice, .slice, (.int .i64)] (F15_L1 k) l_2p l_2l l_2c out_3p out_3l out_3c i_4 w :=
  Loop_intro (ts := [.slice, .slice, (.int .i64)]) (s := ((l_2p, l_2l, l_2c), (out_3p, out_3l, out_3c), i_4, ())) (fun s w => I s.1.1 s.1.2.1 s.1.2.2 s.2.1.1 s.2.1.2.1 s.2.1.2.2 s.2.2.1 w) (fun s w => μ s.1.1 s.1.2.1 s.1.2.2 s.2.1.1 s.2.1.2.1 s.2.1.2.2 s.2.2.1 w) h (fun s w h => hr s.1.1 s.1.2.1 s.1.2.2 s.2.1.1 s.2.1.2.1 s.2.1.2.2 s.2.2.1 w h)
def F15 (k : Value → W) (l_1p : Option Addr) (l_1l : Nat) (l_1c : Nat) : W :=
 Loop [.slice, .slice, (.int .i64)] (F15_L1 k) l_1p l_1l l_1c none 0 0 0
theorem F15_eq (k : Value → W) (l_1p : Option Addr) (l_1l : Nat) (l_1c : Nat) : compF Go.Proofs.Try.prog Go.Proofs.Try.f15 [(3, [(0, .slice), (3, .slice), (4, (.int .i64))])] (Go.Proofs.Try.f15.body.getD .skip) [.slice l_1p l_1l l_1c] k = F15 k l_1p l_1l l_1c := by kernel_rfl
theorem F15_calls {l_1p : Option Addr} {l_1l : Nat} {l_1c : Nat} {w : World} {R : Ending → World → Prop} (h : F15 (fun v w => R (.returned v) w) l_1p l_1l l_1c w) : Calls Go.Proofs.Try.prog 15 #[.slice l_1p l_1l l_1c] w R :=
  calls_of_compF noNum follows [(3, [(0, .slice), (3, .slice), (4, (.int .i64))])] (f := 15) (fn := Go.Proofs.Try.f15) (body := Go.Proofs.Try.f15.body.getD .skip) (args := [.slice l_1p l_1l l_1c]) rfl rfl (Nat.le_of_ble_eq_true rfl) ((congrFun (F15_eq _ l_1p l_1l l_1c) w).mpr h)
theorem F15_call {l_1p : Option Addr} {l_1l : Nat} {l_1c : Nat} {w : World} {g : Fn W (RTy.leaves (.s (.one .slice)))} (h : F15 (fun v => Back (.s (.one .slice)) g (.returned v)) l_1p l_1l l_1c w) : CallT Go.Proofs.Try.prog 15 [.slice l_1p l_1l l_1c] (.s (.one .slice)) g w := F15_calls h

/-! ## spec.SPSame -/
def F16_L1 (k : Value → W) (again6 : Option Addr → Nat → Nat → Option Addr → Nat → Nat → Int → W) (a_3p : Option Addr) (a_3l : Nat) (a_3c : Nat) (b_4p : Option Addr) (b_4l : Nat) (b_4c : Nat) (i_5 : Int) : W :=
 BIf (decide (i_5 < ((a_3l : Nat) : Int))) (
  Drw <|
  NN a_3p fun a7 =>
  Req (0 ≤ i_5 ∧ i_5 < ((a_3l : Nat) : Int)) <|
  LoadT (.int .i64) (a7.add i_5.toNat) fun x8 =>
  NN b_4p fun a9 =>
  Req (0 ≤ i_5 ∧ i_5 < ((b_4l : Nat) : Int)) <|
  LoadT (.int .i64) (a9.add i_5.toNat) fun x10 =>
  BIf (x8 != x10) (
   k (.bool false)) (
   again6 a_3p a_3l a_3c b_4p b_4l b_4c (addI .i64 i_5 1))) (
  k (.bool true))
theorem F16_L1_rule {k : Value → W} (I : Option Addr → Nat → Nat → Option Addr → Nat → Nat → Int → W) (μ : Option Addr → Nat → Nat → Option Addr → Nat → Nat → Int → World → Nat)
  (hr : ∀ (a_3p : Option Addr) (a_3l : Nat) (a_3c : Nat) (b_4p : Option Addr) (b_4l : Nat) (b_4c : Nat) (i_5 : Int) (w : World), I a_3p a_3l a_3c b_4p b_4l b_4c i_5 w → F16_L1 k (fun a_3p' a_3l' a_3c' b_4p' b_4l' b_4c' i_5' w' => I a_3p' a_3l' a_3c' b_4p' b_4l' b_4c' i_5' w' ∧ μ a_3p' a_3l' a_3c' b_4p' b_4l' b_4c' i_5' w' < μ a_3p a_3l a_3c b_4p b_4l b_4c i_5 w) a_3p a_3l a_3c b_4p b_4l b_4c i_5 w)
  {w : World} {a_3p : Option Addr} {a_3l : Nat} {a_3c : Nat} {b_4p : Option Addr} {b_4l : Nat} {b_4c : Nat} {i_5 : Int} (h : I a_3p a_3l a_3c b_4p b_4l b_4c i_5 w) : Loop [.slice, .slice, (.int .i64)] (F16_L1 k) a_3p a_3l a_3c b_4p b_4l b_4c i_5 w :=
  Loop_intro (ts := [.slice, .slice, (.int .i64)]) (s := ((a_3p, a_3l, a_3c), (b_4p, b_4l, b_4c), i_5, ())) (fun s w => I s.1.1 s.1.2.1 s.1.2.2 s.2.1.1 s.2.1.2.1 s.2.1.2.2 s.2.2.1 w) (fun s w => μ s.1.1 s.1.2.1 s.1.2.2 s.2.1.1 s.2.1.2.1 s.2.1.2.2 s.2.2.1 w) h (fun s w h => hr s.1.1 s.1.2.1 s.1.2.2 s.2.1.1 s.2.1.2.1 s.2.1.2.2 s.2.2.1 w h)
def F16 (k : Value → W) (a_1p : Option Addr) (a_1l : Nat) (a_1c : Nat) (b_2p : Option Addr) (b_2l : Nat) (b_2c : Nat) : W :=
 BIf (((a_1l : Nat) : Int) != ((b_2l : Nat) : Int)) (
  k (.bool false)) (
  Loop [.slice, .slice, (.int .i64)] (F16_L1 k) a_1p a_1l a_1c b_2p b_2l b_2c 0)
theorem F16_eq (k : Value → W) (a_1p : Option Addr) (a_1l : Nat) (a_1c : Nat) (b_2p : Option Addr) (b_2l : Nat) (b_2c : Nat) : compF Go.Proofs.Try.prog Go.Proofs.Try.f16 [(4, [(0, .slice), (1, .slice), (5, (.int .i64))])] (Go.Proofs.Try.f16.body.getD .skip) [.slice a_1p a_1l a_1c, .slice b_2p b_2l b_2c] k = F16 k a_1p a_1l a_1c b_2p b_2l b_2c := by kernel_rfl
theorem F16_calls {a_1p : Option Addr} {a_1l : Nat} {a_1c : Nat} {b_2p : Option Addr} {b_2l : Nat} {b_2c : Nat} {w : World} {R : Ending → World → Prop} (h : F16 (fun v w => R (.returned v) w) a_1p a_1l a_1c b_2p b_2l b_2c w) : Calls Go.Proofs.Try.prog 16 #[.slice a_1p a_1l a_1c, .slice b_2p b_2l b_2c] w R :=
  calls_of_compF noNum follows [(4, [(0, .slice), (1, .slice), (5, (.int .i64))])] (f := 16) (fn := Go.Proofs.Try.f16) (body := Go.Proofs.Try.f16.body.getD .skip) (args := [.slice a_1p a_1l a_1c, .slice b_2p b_2l b_2c]) rfl rfl (Nat.le_of_ble_eq_true rfl) ((congrFun (F16_eq _ a_1p a_1l a_1c b_2p b_2l b_2c) w).mpr h)
theorem F16_call {a_1p : Option Addr} {a_1l : Nat} {a_1c : Nat} {b_2p : Option Addr} {b_2l : Nat} {b_2c : Nat} {w : World} {g : Fn W (RTy.leaves (.s (.one .bool)))} (h : F16 (fun v => Back (.s (.one .bool)) g (.returned v)) a_1p a_1l a_1c b_2p b_2l b_2c w) : CallT Go.Proofs.Try.prog 16 [.slice a_1p a_1l a_1c, .slice b_2p b_2l b_2c] (.s (.one .bool)) g w := F16_calls h

/-! ## laws.rtMade -/
def F12_J1 (k : Value → W) (a36 : Addr) (s_37 : Addr) (now_38p : Option Addr) (now_38l : Nat) (now_38c : Nat) : W :=
 LoadT (.int .i64) (s_37.add 0) fun x39 =>
 LoadT (.int .i64) (s_37.add 1) fun x40 =>
 LoadT .slice (s_37.add 2) fun s41p s41l s41c =>
 LoadT .slice (s_37.add 3) fun s42p s42l s42c =>
 LoadT .slice (s_37.add 4) fun s43p s43l s43c =>
 LoadT (.int .u64) (s_37.add 5) fun x44 =>
 LoadT (.int .i64) (s_37.add 6) fun x45 =>
 LoadT (.int .i64) (s_37.add 7) fun x46 =>
 LoadT (.int .i64) (s_37.add 8) fun x47 =>
 Store1 (a36.add 0) (.int .i64 x39) <|
 Store1 (a36.add 1) (.int .i64 x40) <|
 Store1 (a36.add 2) (.slice s41p s41l s41c) <|
 Store1 (a36.add 3) (.slice s42p s42l s42c) <|
 Store1 (a36.add 4) (.slice s43p s43l s43c) <|
 Store1 (a36.add 5) (.int .u64 x44) <|
 Store1 (a36.add 6) (.int .i64 x45) <|
 Store1 (a36.add 7) (.int .i64 x46) <|
 Store1 (a36.add 8) (.int .i64 x47) <|
 LoadT (.int .i64) (a36.add 0) fun x48 =>
 LoadT (.int .i64) (a36.add 1) fun x49 =>
 LoadT .slice (a36.add 2) fun s50p s50l s50c =>
 LoadT .slice (a36.add 3) fun s51p s51l s51c =>
 LoadT .slice (a36.add 4) fun s52p s52l s52c =>
 LoadT (.int .u64) (a36.add 5) fun x53 =>
 LoadT (.int .i64) (a36.add 6) fun x54 =>
 LoadT (.int .i64) (a36.add 7) fun x55 =>
 LoadT (.int .i64) (a36.add 8) fun x56 =>
 k (.tuple #[.agg #[.int .i64 x48, .int .i64 x49, .slice s50p s50l s50c, .slice s51p s51l s51c, .slice s52p s52l s52c, .int .u64 x53, .int .i64 x54, .int .i64 x55, .int .i64 x56], .slice now_38p now_38l now_38c])
def F12_L1 (k : Value → W) (again13 : Int → Option Addr → Nat → Nat → Int → Addr → Addr → Option Addr → Nat → Nat → Int → W) (dims_6 : Int) (moves_7p : Option Addr) (moves_7l : Nat) (moves_7c : Nat) (most_8 : Int) (a9 : Addr) (s_10 : Addr) (now_11p : Option Addr) (now_11l : Nat) (now_11c : Nat) (i_12 : Int) : W :=
 BIf (decide (i_12 < ((moves_7l : Nat) : Int))) (
  BIf (decide (i_12 < most_8)) (
   NN moves_7p fun a14 =>
   Req (0 ≤ i_12 ∧ i_12 < ((moves_7l : Nat) : Int)) <|
   LoadT (.int .i8) ((a14.add (i_12.toNat * 8)).add 0) fun x15 =>
   LoadT (.int .i8) ((a14.add (i_12.toNat * 8)).add 1) fun x16 =>
   LoadT (.int .i8) ((a14.add (i_12.toNat * 8)).add 2) fun x17 =>
   LoadT (.int .i8) ((a14.add (i_12.toNat * 8)).add 3) fun x18 =>
   LoadT (.int .i8) ((a14.add (i_12.toNat * 8)).add 4) fun x19 =>
   LoadT (.int .i8) ((a14.add (i_12.toNat * 8)).add 5) fun x20 =>
   LoadT (.int .i8) ((a14.add (i_12.toNat * 8)).add 6) fun x21 =>
   LoadT (.int .i8) ((a14.add (i_12.toNat * 8)).add 7) fun x22 =>
   CallT Go.Proofs.Try.prog 29 [.int .i64 dims_6, .agg #[.int .i8 x15, .int .i8 x16, .int .i8 x17, .int .i8 x18, .int .i8 x19, .int .i8 x20, .int .i8 x21, .int .i8 x22], .int .i64 (addI .i64 i_12 1)] (.s (.agg [.slice, (.int .i64)])) fun s23p s23l s23c x24 =>
   New [.slice none 0 0, .int .i64 0] 85 fun n25 =>
   Store1 ⟨n25, 0, none⟩ (.slice s23p s23l s23c) <|
   Store1 ⟨n25, 1, none⟩ (.int .i64 x24) <|
   Drw <|
   LoadT .slice (s_10.add 2) fun s26p s26l s26c =>
   LoadT .slice ⟨n25, 0, none⟩ fun s27p s27l s27c =>
   LoadT (.int .i64) ⟨n25, 1, none⟩ fun x28 =>
   CallT Go.Proofs.Try.prog 30 [.agg #[.slice s27p s27l s27c, .int .i64 x28]] (.s (.agg [.slice, (.int .i64)])) fun s29p s29l s29c x30 =>
   Chk1 (s_10.add 2) (.slice s26p s26l s26c) <|
   RawT Go.Proofs.Try.prog (Instr.buildSlice 46 1 [(0, .agg #[.slice s29p s29l s29c, .int .i64 x30])].toArray) (.s (.one .slice)) fun s31p s31l s31c =>
   Chk1 ⟨n25, 0, none⟩ (.slice s27p s27l s27c) <|
   Chk1 ⟨n25, 1, none⟩ (.int .i64 x28) <|
   Chk1 (s_10.add 2) (.slice s26p s26l s26c) <|
   NextT Go.Proofs.Try.prog (builtin .append #[46, 46] 46 [false, false].toArray [.slice s26p s26l s26c, .slice s31p s31l s31c].toArray) (.s (.one .slice)) fun s32p s32l s32c =>
   Chk1 ⟨n25, 0, none⟩ (.slice s27p s27l s27c) <|
   Chk1 ⟨n25, 1, none⟩ (.int .i64 x28) <|
   Store1 (s_10.add 2) (.slice s32p s32l s32c) <|
   LoadT .slice ⟨n25, 0, none⟩ fun s33p s33l s33c =>
   LoadT (.int .i64) ⟨n25, 1, none⟩ fun x34 =>
   CallT Go.Proofs.Try.prog 31 [.slice now_11p now_11l now_11c, .agg #[.slice s33p s33l s33c, .int .i64 x34]] (.s (.one .slice)) fun s35p s35l s35c =>
   again13 dims_6 moves_7p moves_7l moves_7c most_8 a9 s_10 s35p s35l s35c (addI .i64 i_12 1)) (
   F12_J1 k a9 s_10 now_11p now_11l now_11c)) (
  F12_J1 k a9 s_10 now_11p now_11l now_11c)
theorem F12_L1_rule {k : Value → W} (I : Int → Option Addr → Nat → Nat → Int → Addr → Addr → Option Addr → Nat → Nat → Int → W) (μ : Int → Option Addr → Nat → Nat → Int → Addr → Addr → Option Addr → Nat → Nat → Int → World → Nat)
  (hr : ∀ (dims_6 : Int) (moves_7p : Option Addr) (moves_7l : Nat) (moves_7c : Nat) (most_8 : Int) (a9 : Addr) (s_10 : Addr) (now_11p : Option Addr) (now_11l : Nat) (now_11c : Nat) (i_12 : Int) (w : World), I dims_6 moves_7p moves_7l moves_7c most_8 a9 s_10 now_11p now_11l now_11c i_12 w → F12_L1 k (fun dims_6' moves_7p' moves_7l' moves_7c' most_8' a9' s_10' now_11p' now_11l' now_11c' i_12' w' => I dims_6' moves_7p' moves_7l' moves_7c' most_8' a9' s_10' now_11p' now_11l' now_11c' i_12' w' ∧ μ dims_6' moves_7p' moves_7l' moves_7c' most_8' a9' s_10' now_11p' now_11l' now_11c' i_12' w' < μ dims_6 moves_7p moves_7l moves_7c most_8 a9 s_10 now_11p now_11l now_11c i_12 w) dims_6 moves_7p moves_7l moves_7c most_8 a9 s_10 now_11p now_11l now_11c i_12 w)
  {w : World} {dims_6 : Int} {moves_7p : Option Addr} {moves_7l : Nat} {moves_7c : Nat} {most_8 : Int} {a9 : Addr} {s_10 : Addr} {now_11p : Option Addr} {now_11l : Nat} {now_11c : Nat} {i_12 : Int} (h : I dims_6 moves_7p moves_7l moves_7c most_8 a9 s_10 now_11p now_11l now_11c i_12 w) : Loop [(.int .i64), .slice, (.int .i64), .addr, .addr, .slice, (.int .i64)] (F12_L1 k) dims_6 moves_7p moves_7l moves_7c most_8 a9 s_10 now_11p now_11l now_11c i_12 w :=
  Loop_intro (ts := [(.int .i64), .slice, (.int .i64), .addr, .addr, .slice, (.int .i64)]) (s := (dims_6, (moves_7p, moves_7l, moves_7c), most_8, a9, s_10, (now_11p, now_11l, now_11c), i_12, ())) (fun s w => I s.1 s.2.1.1 s.2.1.2.1 s.2.1.2.2 s.2.2.1 s.2.2.2.1 s.2.2.2.2.1 s.2.2.2.2.2.1.1 s.2.2.2.2.2.1.2.1 s.2.2.2.2.2.1.2.2 s.2.2.2.2.2.2.1 w) (fun s w => μ s.1 s.2.1.1 s.2.1.2.1 s.2.1.2.2 s.2.2.1 s.2.2.2.1 s.2.2.2.2.1 s.2.2.2.2.2.1.1 s.2.2.2.2.2.1.2.1 s.2.2.2.2.2.1.2.2 s.2.2.2.2.2.2.1 w) h (fun s w h => hr s.1 s.2.1.1 s.2.1.2.1 s.2.1.2.2 s.2.2.1 s.2.2.2.1 s.2.2.2.2.1 s.2.2.2.2.2.1.1 s.2.2.2.2.2.1.2.1 s.2.2.2.2.2.1.2.2 s.2.2.2.2.2.2.1 w h)
def F12 (k : Value → W) (dims_1 : Int) (moves_2p : Option Addr) (moves_2l : Nat) (moves_2c : Nat) (most_3 : Int) : W :=
 New [.int .i64 0, .int .i64 0, .slice none 0 0, .slice none 0 0, .slice none 0 0, .int .u64 0, .int .i64 0, .int .i64 0, .int .i64 0] 49 fun n4 =>
 New [.int .i64 0, .int .i64 0, .slice none 0 0, .slice none 0 0, .slice none 0 0, .int .u64 0, .int .i64 0, .int .i64 0, .int .i64 0] 49 fun n5 =>
 Store1 ⟨n5, 0, none⟩ (.int .i64 1) <|
 Store1 ⟨n5, 1, none⟩ (.int .i64 0) <|
 Store1 ⟨n5, 2, none⟩ (.slice none 0 0) <|
 Store1 ⟨n5, 3, none⟩ (.slice none 0 0) <|
 Store1 ⟨n5, 4, none⟩ (.slice none 0 0) <|
 Store1 ⟨n5, 5, none⟩ (.int .u64 0) <|
 Store1 ⟨n5, 6, none⟩ (.int .i64 0) <|
 Store1 ⟨n5, 7, none⟩ (.int .i64 0) <|
 Store1 ⟨n5, 8, none⟩ (.int .i64 0) <|
 Loop [(.int .i64), .slice, (.int .i64), .addr, .addr, .slice, (.int .i64)] (F12_L1 k) dims_1 moves_2p moves_2l moves_2c most_3 ⟨n4, 0, none⟩ ⟨n5, 0, none⟩ none 0 0 0
theorem F12_eq (k : Value → W) (dims_1 : Int) (moves_2p : Option Addr) (moves_2l : Nat) (moves_2c : Nat) (most_3 : Int) : compF Go.Proofs.Try.prog Go.Proofs.Try.f12 [(4, [(0, (.int .i64)), (1, .slice), (2, (.int .i64)), (6, .addr), (8, .addr), (9, .slice), (10, (.int .i64))])] (Go.Proofs.Try.f12.body.getD .skip) [.int .i64 dims_1, .slice moves_2p moves_2l moves_2c, .int .i64 most_3] k = F12 k dims_1 moves_2p moves_2l moves_2c most_3 := by kernel_rfl
theorem F12_calls {dims_1 : Int} {moves_2p : Option Addr} {moves_2l : Nat} {moves_2c : Nat} {most_3 : Int} {w : World} {R : Ending → World → Prop} (h : F12 (fun v w => R (.returned v) w) dims_1 moves_2p moves_2l moves_2c most_3 w) : Calls Go.Proofs.Try.prog 12 #[.int .i64 dims_1, .slice moves_2p moves_2l moves_2c, .int .i64 most_3] w R :=
  calls_of_compF noNum follows [(4, [(0, (.int .i64)), (1, .slice), (2, (.int .i64)), (6, .addr), (8, .addr), (9, .slice), (10, (.int .i64))])] (f := 12) (fn := Go.Proofs.Try.f12) (body := Go.Proofs.Try.f12.body.getD .skip) (args := [.int .i64 dims_1, .slice moves_2p moves_2l moves_2c, .int .i64 most_3]) rfl rfl (Nat.le_of_ble_eq_true rfl) ((congrFun (F12_eq _ dims_1 moves_2p moves_2l moves_2c most_3) w).mpr h)
theorem F12_call {dims_1 : Int} {moves_2p : Option Addr} {moves_2l : Nat} {moves_2c : Nat} {most_3 : Int} {w : World} {g : Fn W (RTy.leaves (.tup [(.agg [(.int .i64), (.int .i64), .slice, .slice, .slice, (.int .u64), (.int .i64), (.int .i64), (.int .i64)]), (.one .slice)]))} (h : F12 (fun v => Back (.tup [(.agg [(.int .i64), (.int .i64), .slice, .slice, .slice, (.int .u64), (.int .i64), (.int .i64), (.int .i64)]), (.one .slice)]) g (.returned v)) dims_1 moves_2p moves_2l moves_2c most_3 w) : CallT Go.Proofs.Try.prog 12 [.int .i64 dims_1, .slice moves_2p moves_2l moves_2c, .int .i64 most_3] (.tup [(.agg [(.int .i64), (.int .i64), .slice, .slice, .slice, (.int .u64), (.int .i64), (.int .i64), (.int .i64)]), (.one .slice)]) g w := F12_calls h

/-! ## laws.FnRTApplies -/
def F6 (k : Value → W) (dims_1 : Int) (moves_2p : Option Addr) (moves_2l : Nat) (moves_2c : Nat) (x3 : Int) (x4 : Int) (x5 : Int) (x6 : Int) (x7 : Int) (x8 : Int) (x9 : Int) (x10 : Int) (most_11 : Int) : W :=
 New [.int .i8 x3, .int .i8 x4, .int .i8 x5, .int .i8 x6, .int .i8 x7, .int .i8 x8, .int .i8 x9, .int .i8 x10] 45 fun n12 =>
 BIf (decide (((moves_2l : Nat) : Int) > 2147483647)) (
  k (.bool true)) (
  Req (3 ≠ (0 : Int)) <|
  Bind (addI .i64 1 (remI (IntKind.wrap .i64 dims_1) 3) : Int) fun n_13 =>
  CallT Go.Proofs.Try.prog 12 [.int .i64 n_13, .slice moves_2p moves_2l moves_2c, .int .i64 30] (.tup [(.agg [(.int .i64), (.int .i64), .slice, .slice, .slice, (.int .u64), (.int .i64), (.int .i64), (.int .i64)]), (.one .slice)]) fun x14 x15 s16p s16l s16c s17p s17l s17c s18p s18l s18c x19 x20 x21 x22 s23p s23l s23c =>
  New [.int .i64 0, .int .i64 0, .slice none 0 0, .slice none 0 0, .slice none 0 0, .int .u64 0, .int .i64 0, .int .i64 0, .int .i64 0] 49 fun n24 =>
  Store1 ⟨n24, 0, none⟩ (.int .i64 x14) <|
  Store1 ⟨n24, 1, none⟩ (.int .i64 x15) <|
  Store1 ⟨n24, 2, none⟩ (.slice s16p s16l s16c) <|
  Store1 ⟨n24, 3, none⟩ (.slice s17p s17l s17c) <|
  Store1 ⟨n24, 4, none⟩ (.slice s18p s18l s18c) <|
  Store1 ⟨n24, 5, none⟩ (.int .u64 x19) <|
  Store1 ⟨n24, 6, none⟩ (.int .i64 x20) <|
  Store1 ⟨n24, 7, none⟩ (.int .i64 x21) <|
  Store1 ⟨n24, 8, none⟩ (.int .i64 x22) <|
  BIf (((s23l : Nat) : Int) == 0) (
   k (.bool true)) (
   LoadT (.int .i8) ⟨n12, 0, none⟩ fun x25 =>
   LoadT (.int .i8) ⟨n12, 1, none⟩ fun x26 =>
   LoadT (.int .i8) ⟨n12, 2, none⟩ fun x27 =>
   LoadT (.int .i8) ⟨n12, 3, none⟩ fun x28 =>
   LoadT (.int .i8) ⟨n12, 4, none⟩ fun x29 =>
   LoadT (.int .i8) ⟨n12, 5, none⟩ fun x30 =>
   LoadT (.int .i8) ⟨n12, 6, none⟩ fun x31 =>
   LoadT (.int .i8) ⟨n12, 7, none⟩ fun x32 =>
   CallT Go.Proofs.Try.prog 13 [.int .i64 n_13, .agg #[.int .i8 x25, .int .i8 x26, .int .i8 x27, .int .i8 x28, .int .i8 x29, .int .i8 x30, .int .i8 x31, .int .i8 x32]] (.tup [(.one .slice), (.one .slice)]) fun s33p s33l s33c s34p s34l s34c =>
   Req (12 ≠ (0 : Int)) <|
   Bind (remI (IntKind.wrap .i64 most_11) 12 : Int) fun k_35 =>
   LoadT (.int .i64) ⟨n24, 0, none⟩ fun x36 =>
   LoadT (.int .i64) ⟨n24, 1, none⟩ fun x37 =>
   LoadT .slice ⟨n24, 2, none⟩ fun s38p s38l s38c =>
   LoadT .slice ⟨n24, 3, none⟩ fun s39p s39l s39c =>
   LoadT .slice ⟨n24, 4, none⟩ fun s40p s40l s40c =>
   LoadT (.int .u64) ⟨n24, 5, none⟩ fun x41 =>
   LoadT (.int .i64) ⟨n24, 6, none⟩ fun x42 =>
   LoadT (.int .i64) ⟨n24, 7, none⟩ fun x43 =>
   LoadT (.int .i64) ⟨n24, 8, none⟩ fun x44 =>
   RawT Go.Proofs.Try.prog (Instr.buildSlice 57 5 [(0, .agg #[.int .i64 x36, .int .i64 x37, .slice s38p s38l s38c, .slice s39p s39l s39c, .slice s40p s40l s40c, .int .u64 x41, .int .i64 x42, .int .i64 x43, .int .i64 x44]), (1, .agg #[.int .i64 4, .int .i64 0, .slice none 0 0, .slice s33p s33l s33c, .slice s34p s34l s34c, .int .u64 0, .int .i64 0, .int .i64 0, .int .i64 0]), (2, .agg #[.int .i64 5, .int .i64 0, .slice none 0 0, .slice s33p s33l s33c, .slice s34p s34l s34c, .int .u64 0, .int .i64 0, .int .i64 0, .int .i64 k_35]), (3, .agg #[.int .i64 5, .int .i64 0, .slice none 0 0, .slice s33p s33l s33c, .slice s34p s34l s34c, .int .u64 0, .int .i64 0, .int .i64 0, .int .i64 1000]), (4, .agg #[.int .i64 6, .int .i64 0, .slice none 0 0, .slice none 0 0, .slice none 0 0, .int .u64 0, .int .i64 0, .int .i64 0, .int .i64 0])].toArray) (.s (.one .slice)) fun s45p s45l s45c =>
   CallT Go.Proofs.Try.prog 14 [.int .u64 (IntKind.wrap .u64 n_13), .slice s45p s45l s45c] (.s (.one .slice)) fun s46p s46l s46c =>
   BIf (((s46l : Nat) : Int) != 5) (
    k (.bool false)) (
    NN s46p fun a47 =>
    Req (0 ≤ (4 : Int) ∧ (4 : Int) < ((s46l : Nat) : Int)) <|
    LoadT (.int .u64) ((a47.add ((4 : Int).toNat * 4)).add 3) fun x48 =>
    BIf (x48 != (IntKind.wrap .u64 ((s23l : Nat) : Int))) (
     k (.bool false)) (
     NN s46p fun a49 =>
     Req (0 ≤ (1 : Int) ∧ (1 : Int) < ((s46l : Nat) : Int)) <|
     LoadT .slice (a49.add ((1 : Int).toNat * 4)) fun s50p s50l s50c =>
     CallT Go.Proofs.Try.prog 15 [.slice s50p s50l s50c] (.s (.one .slice)) fun s51p s51l s51c =>
     Drw <|
     NN s46p fun a52 =>
     Req (0 ≤ (2 : Int) ∧ (2 : Int) < ((s46l : Nat) : Int)) <|
     LoadT .slice (a52.add ((2 : Int).toNat * 4)) fun s53p s53l s53c =>
     Both (
      CallT Go.Proofs.Try.prog 15 [.slice s53p s53l s53c] (.s (.one .slice)) fun s54p s54l s54c =>
      NextT Go.Proofs.Try.prog (builtin .min #[3, 3] 3 [false, false].toArray [.int .i64 ((s51l : Nat) : Int), .int .i64 (addI .i64 k_35 1)].toArray) (.s (.one (.int .i64))) fun x55 =>
      Chk1 (a52.add ((2 : Int).toNat * 4)) (.slice s53p s53l s53c) <|
      Req (0 ≤ x55 ∧ x55 ≤ ((s51c : Nat) : Int)) <|
      CallT Go.Proofs.Try.prog 16 [.slice s54p s54l s54c, .slice (sliceA s51p 0 s51c 1) (x55.toNat - 0) (s51c - 0)] (.s (.one .bool)) fun b56 =>
      Chk1 (a52.add ((2 : Int).toNat * 4)) (.slice s53p s53l s53c) <|
      BIf b56 (
       NN s46p fun a57 =>
       Req (0 ≤ (3 : Int) ∧ (3 : Int) < ((s46l : Nat) : Int)) <|
       LoadT .slice (a57.add ((3 : Int).toNat * 4)) fun s58p s58l s58c =>
       CallT Go.Proofs.Try.prog 15 [.slice s58p s58l s58c] (.s (.one .slice)) fun s59p s59l s59c =>
       Chk1 (a52.add ((2 : Int).toNat * 4)) (.slice s53p s53l s53c) <|
       CallT Go.Proofs.Try.prog 16 [.slice s59p s59l s59c, .slice s51p s51l s51c] (.s (.one .bool)) fun b60 =>
       Chk1 (a57.add ((3 : Int).toNat * 4)) (.slice s58p s58l s58c) <|
       Chk1 (a52.add ((2 : Int).toNat * 4)) (.slice s53p s53l s53c) <|
       k (.bool b60)) (
       k (.bool false))) (
      NextT Go.Proofs.Try.prog (builtin .min #[3, 3] 3 [false, false].toArray [.int .i64 ((s51l : Nat) : Int), .int .i64 (addI .i64 k_35 1)].toArray) (.s (.one (.int .i64))) fun x61 =>
      Chk1 (a52.add ((2 : Int).toNat * 4)) (.slice s53p s53l s53c) <|
      Req (0 ≤ x61 ∧ x61 ≤ ((s51c : Nat) : Int)) <|
      CallT Go.Proofs.Try.prog 15 [.slice s53p s53l s53c] (.s (.one .slice)) fun s62p s62l s62c =>
      CallT Go.Proofs.Try.prog 16 [.slice s62p s62l s62c, .slice (sliceA s51p 0 s51c 1) (x61.toNat - 0) (s51c - 0)] (.s (.one .bool)) fun b63 =>
      Chk1 (a52.add ((2 : Int).toNat * 4)) (.slice s53p s53l s53c) <|
      BIf b63 (
       NN s46p fun a64 =>
       Req (0 ≤ (3 : Int) ∧ (3 : Int) < ((s46l : Nat) : Int)) <|
       LoadT .slice (a64.add ((3 : Int).toNat * 4)) fun s65p s65l s65c =>
       CallT Go.Proofs.Try.prog 15 [.slice s65p s65l s65c] (.s (.one .slice)) fun s66p s66l s66c =>
       Chk1 (a52.add ((2 : Int).toNat * 4)) (.slice s53p s53l s53c) <|
       CallT Go.Proofs.Try.prog 16 [.slice s66p s66l s66c, .slice s51p s51l s51c] (.s (.one .bool)) fun b67 =>
       Chk1 (a64.add ((3 : Int).toNat * 4)) (.slice s65p s65l s65c) <|
       Chk1 (a52.add ((2 : Int).toNat * 4)) (.slice s53p s53l s53c) <|
       k (.bool b67)) (
       k (.bool false)))))))
theorem F6_eq (k : Value → W) (dims_1 : Int) (moves_2p : Option Addr) (moves_2l : Nat) (moves_2c : Nat) (x3 : Int) (x4 : Int) (x5 : Int) (x6 : Int) (x7 : Int) (x8 : Int) (x9 : Int) (x10 : Int) (most_11 : Int) : compF Go.Proofs.Try.prog Go.Proofs.Try.f6 [] (Go.Proofs.Try.f6.body.getD .skip) [.int .u8 dims_1, .slice moves_2p moves_2l moves_2c, .agg #[.int .i8 x3, .int .i8 x4, .int .i8 x5, .int .i8 x6, .int .i8 x7, .int .i8 x8, .int .i8 x9, .int .i8 x10], .int .u8 most_11] k = F6 k dims_1 moves_2p moves_2l moves_2c x3 x4 x5 x6 x7 x8 x9 x10 most_11 := by kernel_rfl
theorem F6_calls {dims_1 : Int} {moves_2p : Option Addr} {moves_2l : Nat} {moves_2c : Nat} {x3 : Int} {x4 : Int} {x5 : Int} {x6 : Int} {x7 : Int} {x8 : Int} {x9 : Int} {x10 : Int} {most_11 : Int} {w : World} {R : Ending → World → Prop} (h : F6 (fun v w => R (.returned v) w) dims_1 moves_2p moves_2l moves_2c x3 x4 x5 x6 x7 x8 x9 x10 most_11 w) : Calls Go.Proofs.Try.prog 6 #[.int .u8 dims_1, .slice moves_2p moves_2l moves_2c, .agg #[.int .i8 x3, .int .i8 x4, .int .i8 x5, .int .i8 x6, .int .i8 x7, .int .i8 x8, .int .i8 x9, .int .i8 x10], .int .u8 most_11] w R :=
  calls_of_compF noNum follows [] (f := 6) (fn := Go.Proofs.Try.f6) (body := Go.Proofs.Try.f6.body.getD .skip) (args := [.int .u8 dims_1, .slice moves_2p moves_2l moves_2c, .agg #[.int .i8 x3, .int .i8 x4, .int .i8 x5, .int .i8 x6, .int .i8 x7, .int .i8 x8, .int .i8 x9, .int .i8 x10], .int .u8 most_11]) rfl rfl (Nat.le_of_ble_eq_true rfl) ((congrFun (F6_eq _ dims_1 moves_2p moves_2l moves_2c x3 x4 x5 x6 x7 x8 x9 x10 most_11) w).mpr h)
theorem F6_call {dims_1 : Int} {moves_2p : Option Addr} {moves_2l : Nat} {moves_2c : Nat} {x3 : Int} {x4 : Int} {x5 : Int} {x6 : Int} {x7 : Int} {x8 : Int} {x9 : Int} {x10 : Int} {most_11 : Int} {w : World} {g : Fn W (RTy.leaves (.s (.one .bool)))} (h : F6 (fun v => Back (.s (.one .bool)) g (.returned v)) dims_1 moves_2p moves_2l moves_2c x3 x4 x5 x6 x7 x8 x9 x10 most_11 w) : CallT Go.Proofs.Try.prog 6 [.int .u8 dims_1, .slice moves_2p moves_2l moves_2c, .agg #[.int .i8 x3, .int .i8 x4, .int .i8 x5, .int .i8 x6, .int .i8 x7, .int .i8 x8, .int .i8 x9, .int .i8 x10], .int .u8 most_11] (.s (.one .bool)) g w := F6_calls h

end Go.Proofs.Ytfokodpnoiilbaa.E
