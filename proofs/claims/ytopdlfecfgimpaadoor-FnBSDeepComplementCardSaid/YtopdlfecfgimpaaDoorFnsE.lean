/-
  Printed by this session's own program eng.py out of Lean's print of the loaded functions: what each function's body asks, in the engine's words; each is checked against the program by the kernel.
-/
import Derived.Test.YtopdlfecfgimpaaDoorEng
import Derived.Test.YtopdlfecfgimpaaDoorFnsA
namespace Go.Proofs.YtopdlfecfgimpaaDoor.E
open Go
set_option linter.unusedVariables false
set_option maxRecDepth 100000
/-! ## bitset.popcntOrSlice -/
def F61_L1 (k : Value → W) (again10 : Option Addr → Nat → Nat → Option Addr → Nat → Nat → Int → Int → Int → W) (s_5p : Option Addr) (s_5l : Nat) (s_5c : Nat) (m_6p : Option Addr) (m_6l : Nat) (m_6c : Nat) (cnt_7 : Int) (x8 : Int) (x9 : Int) : W :=
 BIf (decide (x9 < x8)) (
  Drw <|
  NN s_5p fun a11 =>
  Req (0 ≤ x9 ∧ x9 < ((s_5l : Nat) : Int)) <|
  LoadT (.int .u64) (a11.add x9.toNat) fun x12 =>
  NN m_6p fun a13 =>
  Req (0 ≤ x9 ∧ x9 < ((m_6l : Nat) : Int)) <|
  LoadT (.int .u64) (a13.add x9.toNat) fun x14 =>
  CallT Go.Proofs.Tryd.prog 56 [.int .u64 (orI .u64 x12 x14)] (.s (.one (.int .i64))) fun x15 =>
  Chk1 (a13.add x9.toNat) (.int .u64 x14) <|
  Chk1 (a11.add x9.toNat) (.int .u64 x12) <|
  Bind (addI .u64 cnt_7 (IntKind.wrap .u64 x15) : Int) fun cnt_16 =>
  again10 s_5p s_5l s_5c m_6p m_6l m_6c cnt_16 x8 (addI .i64 x9 1)) (
  k (.int .u64 cnt_7))
theorem F61_L1_rule {k : Value → W} (I : Option Addr → Nat → Nat → Option Addr → Nat → Nat → Int → Int → Int → W) (μ : Option Addr → Nat → Nat → Option Addr → Nat → Nat → Int → Int → Int → World → Nat)
  (hr : ∀ (s_5p : Option Addr) (s_5l : Nat) (s_5c : Nat) (m_6p : Option Addr) (m_6l : Nat) (m_6c : Nat) (cnt_7 : Int) (x8 : Int) (x9 : Int) (w : World), I s_5p s_5l s_5c m_6p m_6l m_6c cnt_7 x8 x9 w → F61_L1 k (fun s_5p' s_5l' s_5c' m_6p' m_6l' m_6c' cnt_7' x8' x9' w' => I s_5p' s_5l' s_5c' m_6p' m_6l' m_6c' cnt_7' x8' x9' w' ∧ μ s_5p' s_5l' s_5c' m_6p' m_6l' m_6c' cnt_7' x8' x9' w' < μ s_5p s_5l s_5c m_6p m_6l m_6c cnt_7 x8 x9 w) s_5p s_5l s_5c m_6p m_6l m_6c cnt_7 x8 x9 w)
  {w : World} {s_5p : Option Addr} {s_5l : Nat} {s_5c : Nat} {m_6p : Option Addr} {m_6l : Nat} {m_6c : Nat} {cnt_7 : Int} {x8 : Int} {x9 : Int} (h : I s_5p s_5l s_5c m_6p m_6l m_6c cnt_7 x8 x9 w) : Loop [.slice, .slice, (.int .u64), (.int .i64), (.int .i64)] (F61_L1 k) s_5p s_5l s_5c m_6p m_6l m_6c cnt_7 x8 x9 w :=
  Loop_intro (ts := [.slice, .slice, (.int .u64), (.int .i64), (.int .i64)]) (s := ((s_5p, s_5l, s_5c), (m_6p, m_6l, m_6c), cnt_7, x8, x9, ())) (fun s w => I s.1.1 s.1.2.1 s.1.2.2 s.2.1.1 s.2.1.2.1 s.2.1.2.2 s.2.2.1 s.2.2.2.1 s.2.2.2.2.1 w) (fun s w => μ s.1.1 s.1.2.1 s.1.2.2 s.2.1.1 s.2.1.2.1 s.2.1.2.2 s.2.2.1 s.2.2.2.1 s.2.2.2.2.1 w) h (fun s w h => hr s.1.1 s.1.2.1 s.1.2.2 s.2.1.1 s.2.1.2.1 s.2.1.2.2 s.2.2.1 s.2.2.2.1 s.2.2.2.2.1 w h)
def F61 (k : Value → W) (s_1p : Option Addr) (s_1l : Nat) (s_1c : Nat) (m_2p : Option Addr) (m_2l : Nat) (m_2c : Nat) : W :=
 NN m_2p fun a3 =>
 Req (0 ≤ subI .i64 ((s_1l : Nat) : Int) 1 ∧ subI .i64 ((s_1l : Nat) : Int) 1 < ((m_2l : Nat) : Int)) <|
 LoadT (.int .u64) (a3.add ((subI .i64 ((s_1l : Nat) : Int) 1).toNat)) fun x4 =>
 Loop [.slice, .slice, (.int .u64), (.int .i64), (.int .i64)] (F61_L1 k) s_1p s_1l s_1c m_2p m_2l m_2c 0 ((s_1l : Nat) : Int) 0
theorem F61_eq (k : Value → W) (s_1p : Option Addr) (s_1l : Nat) (s_1c : Nat) (m_2p : Option Addr) (m_2l : Nat) (m_2c : Nat) : compF Go.Proofs.Tryd.prog Go.Proofs.Tryd.f61 [(3, [(0, .slice), (1, .slice), (4, (.int .u64)), (13, (.int .i64)), (14, (.int .i64))])] (Go.Proofs.Tryd.f61.body.getD .skip) [.slice s_1p s_1l s_1c, .slice m_2p m_2l m_2c] k = F61 k s_1p s_1l s_1c m_2p m_2l m_2c := by kernel_rfl
theorem F61_calls {s_1p : Option Addr} {s_1l : Nat} {s_1c : Nat} {m_2p : Option Addr} {m_2l : Nat} {m_2c : Nat} {w : World} {R : Ending → World → Prop} (h : F61 (fun v w => R (.returned v) w) s_1p s_1l s_1c m_2p m_2l m_2c w) : Calls Go.Proofs.Tryd.prog 61 #[.slice s_1p s_1l s_1c, .slice m_2p m_2l m_2c] w R :=
  calls_of_compF noNum follows [(3, [(0, .slice), (1, .slice), (4, (.int .u64)), (13, (.int .i64)), (14, (.int .i64))])] (f := 61) (fn := Go.Proofs.Tryd.f61) (body := Go.Proofs.Tryd.f61.body.getD .skip) (args := [.slice s_1p s_1l s_1c, .slice m_2p m_2l m_2c]) rfl rfl (Nat.le_of_ble_eq_true rfl) ((congrFun (F61_eq _ s_1p s_1l s_1c m_2p m_2l m_2c) w).mpr h)
theorem F61_call {s_1p : Option Addr} {s_1l : Nat} {s_1c : Nat} {m_2p : Option Addr} {m_2l : Nat} {m_2c : Nat} {w : World} {g : Fn W (RTy.leaves (.s (.one (.int .u64))))} (h : F61 (fun v => Back (.s (.one (.int .u64))) g (.returned v)) s_1p s_1l s_1c m_2p m_2l m_2c w) : CallT Go.Proofs.Tryd.prog 61 [.slice s_1p s_1l s_1c, .slice m_2p m_2l m_2c] (.s (.one (.int .u64))) g w := F61_calls h

/-! ## bitset.BitSet).UnionCardinality -/
def F45_J1 (k : Value → W) (b_12 : Option Addr) (compare_13 : Option Addr) (cnt_14 : Int) : W :=
 Drw <|
 NN compare_13 fun a15 =>
 LoadT .slice (a15.add 1) fun s16p s16l s16c =>
 NN b_12 fun a17 =>
 LoadT .slice (a17.add 1) fun s18p s18l s18c =>
 BIf (decide (((s16l : Nat) : Int) > ((s18l : Nat) : Int))) (
  Drw <|
  NN compare_13 fun a19 =>
  LoadT .slice (a19.add 1) fun s20p s20l s20c =>
  NN b_12 fun a21 =>
  LoadT .slice (a21.add 1) fun s22p s22l s22c =>
  Req (0 ≤ ((s22l : Nat) : Int) ∧ ((s22l : Nat) : Int) ≤ ((s20l : Nat) : Int)) <|
  CallT Go.Proofs.Tryd.prog 54 [.slice (sliceA s20p ((((s22l : Nat) : Int)).toNat) s20c 1) (s20l - ((((s22l : Nat) : Int)).toNat)) (s20c - ((((s22l : Nat) : Int)).toNat))] (.s (.one (.int .u64))) fun x23 =>
  Chk1 (a21.add 1) (.slice s22p s22l s22c) <|
  Chk1 (a19.add 1) (.slice s20p s20l s20c) <|
  k (.int .u64 (addI .u64 cnt_14 x23))) (
  k (.int .u64 cnt_14))
def F45 (k : Value → W) (b_1 : Option Addr) (compare_2 : Option Addr) : W :=
 CallT Go.Proofs.Tryd.prog 55 [.pointer b_1] (.tup []) <|
 CallT Go.Proofs.Tryd.prog 55 [.pointer compare_2] (.tup []) <|
 CallT Go.Proofs.Tryd.prog 60 [.pointer b_1, .pointer compare_2] (.tup [(.one .ptr), (.one .ptr)]) fun p3 p4 =>
 NN p3 fun a5 =>
 LoadT .slice (a5.add 1) fun s6p s6l s6c =>
 BIf (decide (((s6l : Nat) : Int) > 0)) (
  Drw <|
  NN p3 fun a7 =>
  LoadT .slice (a7.add 1) fun s8p s8l s8c =>
  NN p4 fun a9 =>
  LoadT .slice (a9.add 1) fun s10p s10l s10c =>
  CallT Go.Proofs.Tryd.prog 61 [.slice s8p s8l s8c, .slice s10p s10l s10c] (.s (.one (.int .u64))) fun x11 =>
  F45_J1 k p3 p4 (addI .u64 0 x11)) (
  F45_J1 k p3 p4 0)
theorem F45_eq (k : Value → W) (b_1 : Option Addr) (compare_2 : Option Addr) : compF Go.Proofs.Tryd.prog Go.Proofs.Tryd.f45 [] (Go.Proofs.Tryd.f45.body.getD .skip) [.pointer b_1, .pointer compare_2] k = F45 k b_1 compare_2 := by kernel_rfl
theorem F45_calls {b_1 : Option Addr} {compare_2 : Option Addr} {w : World} {R : Ending → World → Prop} (h : F45 (fun v w => R (.returned v) w) b_1 compare_2 w) : Calls Go.Proofs.Tryd.prog 45 #[.pointer b_1, .pointer compare_2] w R :=
  calls_of_compF noNum follows [] (f := 45) (fn := Go.Proofs.Tryd.f45) (body := Go.Proofs.Tryd.f45.body.getD .skip) (args := [.pointer b_1, .pointer compare_2]) rfl rfl (Nat.le_of_ble_eq_true rfl) ((congrFun (F45_eq _ b_1 compare_2) w).mpr h)
theorem F45_call {b_1 : Option Addr} {compare_2 : Option Addr} {w : World} {g : Fn W (RTy.leaves (.s (.one (.int .u64))))} (h : F45 (fun v => Back (.s (.one (.int .u64))) g (.returned v)) b_1 compare_2 w) : CallT Go.Proofs.Tryd.prog 45 [.pointer b_1, .pointer compare_2] (.s (.one (.int .u64))) g w := F45_calls h

/-! ## impl.BSUnionCardinality -/
def F24 (k : Value → W) (x1 : Int) (s2p : Option Addr) (s2l : Nat) (s2c : Nat) (x3 : Int) (s4p : Option Addr) (s4l : Nat) (s4c : Nat) : W :=
 New [.int .u64 x1, .slice s2p s2l s2c] 25 fun n5 =>
 New [.int .u64 x3, .slice s4p s4l s4c] 25 fun n6 =>
 Drw <|
 LoadT (.int .u64) ⟨n5, 0, none⟩ fun x7 =>
 LoadT .slice ⟨n5, 1, none⟩ fun s8p s8l s8c =>
 LoadT (.int .u64) ⟨n6, 0, none⟩ fun x9 =>
 LoadT .slice ⟨n6, 1, none⟩ fun s10p s10l s10c =>
 CallT Go.Proofs.Tryd.prog 29 [.agg #[.int .u64 x7, .slice s8p s8l s8c]] (.s (.one .ptr)) fun p11 =>
 Chk1 ⟨n6, 0, none⟩ (.int .u64 x9) <|
 Chk1 ⟨n6, 1, none⟩ (.slice s10p s10l s10c) <|
 CallT Go.Proofs.Tryd.prog 29 [.agg #[.int .u64 x9, .slice s10p s10l s10c]] (.s (.one .ptr)) fun p12 =>
 Chk1 ⟨n5, 0, none⟩ (.int .u64 x7) <|
 Chk1 ⟨n5, 1, none⟩ (.slice s8p s8l s8c) <|
 CallT Go.Proofs.Tryd.prog 45 [.pointer p11, .pointer p12] (.s (.one (.int .u64))) fun x13 =>
 Chk1 ⟨n6, 0, none⟩ (.int .u64 x9) <|
 Chk1 ⟨n6, 1, none⟩ (.slice s10p s10l s10c) <|
 Chk1 ⟨n5, 0, none⟩ (.int .u64 x7) <|
 Chk1 ⟨n5, 1, none⟩ (.slice s8p s8l s8c) <|
 k (.int .u64 x13)
theorem F24_eq (k : Value → W) (x1 : Int) (s2p : Option Addr) (s2l : Nat) (s2c : Nat) (x3 : Int) (s4p : Option Addr) (s4l : Nat) (s4c : Nat) : compF Go.Proofs.Tryd.prog Go.Proofs.Tryd.f24 [] (Go.Proofs.Tryd.f24.body.getD .skip) [.agg #[.int .u64 x1, .slice s2p s2l s2c], .agg #[.int .u64 x3, .slice s4p s4l s4c]] k = F24 k x1 s2p s2l s2c x3 s4p s4l s4c := by kernel_rfl
theorem F24_calls {x1 : Int} {s2p : Option Addr} {s2l : Nat} {s2c : Nat} {x3 : Int} {s4p : Option Addr} {s4l : Nat} {s4c : Nat} {w : World} {R : Ending → World → Prop} (h : F24 (fun v w => R (.returned v) w) x1 s2p s2l s2c x3 s4p s4l s4c w) : Calls Go.Proofs.Tryd.prog 24 #[.agg #[.int .u64 x1, .slice s2p s2l s2c], .agg #[.int .u64 x3, .slice s4p s4l s4c]] w R :=
  calls_of_compF noNum follows [] (f := 24) (fn := Go.Proofs.Tryd.f24) (body := Go.Proofs.Tryd.f24.body.getD .skip) (args := [.agg #[.int .u64 x1, .slice s2p s2l s2c], .agg #[.int .u64 x3, .slice s4p s4l s4c]]) rfl rfl (Nat.le_of_ble_eq_true rfl) ((congrFun (F24_eq _ x1 s2p s2l s2c x3 s4p s4l s4c) w).mpr h)
theorem F24_call {x1 : Int} {s2p : Option Addr} {s2l : Nat} {s2c : Nat} {x3 : Int} {s4p : Option Addr} {s4l : Nat} {s4c : Nat} {w : World} {g : Fn W (RTy.leaves (.s (.one (.int .u64))))} (h : F24 (fun v => Back (.s (.one (.int .u64))) g (.returned v)) x1 s2p s2l s2c x3 s4p s4l s4c w) : CallT Go.Proofs.Tryd.prog 24 [.agg #[.int .u64 x1, .slice s2p s2l s2c], .agg #[.int .u64 x3, .slice s4p s4l s4c]] (.s (.one (.int .u64))) g w := F24_calls h

/-! ## impl.BSCount -/
def F18 (k : Value → W) (x1 : Int) (s2p : Option Addr) (s2l : Nat) (s2c : Nat) : W :=
 New [.int .u64 x1, .slice s2p s2l s2c] 25 fun n3 =>
 LoadT (.int .u64) ⟨n3, 0, none⟩ fun x4 =>
 LoadT .slice ⟨n3, 1, none⟩ fun s5p s5l s5c =>
 CallT Go.Proofs.Tryd.prog 29 [.agg #[.int .u64 x4, .slice s5p s5l s5c]] (.s (.one .ptr)) fun p6 =>
 CallT Go.Proofs.Tryd.prog 35 [.pointer p6] (.s (.one (.int .u64))) fun x7 =>
 k (.int .u64 x7)
theorem F18_eq (k : Value → W) (x1 : Int) (s2p : Option Addr) (s2l : Nat) (s2c : Nat) : compF Go.Proofs.Tryd.prog Go.Proofs.Tryd.f18 [] (Go.Proofs.Tryd.f18.body.getD .skip) [.agg #[.int .u64 x1, .slice s2p s2l s2c]] k = F18 k x1 s2p s2l s2c := by kernel_rfl
theorem F18_calls {x1 : Int} {s2p : Option Addr} {s2l : Nat} {s2c : Nat} {w : World} {R : Ending → World → Prop} (h : F18 (fun v w => R (.returned v) w) x1 s2p s2l s2c w) : Calls Go.Proofs.Tryd.prog 18 #[.agg #[.int .u64 x1, .slice s2p s2l s2c]] w R :=
  calls_of_compF noNum follows [] (f := 18) (fn := Go.Proofs.Tryd.f18) (body := Go.Proofs.Tryd.f18.body.getD .skip) (args := [.agg #[.int .u64 x1, .slice s2p s2l s2c]]) rfl rfl (Nat.le_of_ble_eq_true rfl) ((congrFun (F18_eq _ x1 s2p s2l s2c) w).mpr h)
theorem F18_call {x1 : Int} {s2p : Option Addr} {s2l : Nat} {s2c : Nat} {w : World} {g : Fn W (RTy.leaves (.s (.one (.int .u64))))} (h : F18 (fun v => Back (.s (.one (.int .u64))) g (.returned v)) x1 s2p s2l s2c w) : CallT Go.Proofs.Tryd.prog 18 [.agg #[.int .u64 x1, .slice s2p s2l s2c]] (.s (.one (.int .u64))) g w := F18_calls h

end Go.Proofs.YtopdlfecfgimpaaDoor.E
