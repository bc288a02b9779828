/-
  Printed by this session's own program eng.py out of Lean's print of the loaded functions: what each function's body asks, in the engine's words; each is checked against the program by the kernel.
-/
import Derived.Test.YtmaejciimpnogaaDoorEng
import Derived.Test.YtmaejciimpnogaaDoorFnsA
namespace Go.Proofs.YtmaejciimpnogaaDoor.E
open Go
set_option linter.unusedVariables false
set_option maxRecDepth 100000
/-! ## impl.CARun -/
def F7_J2 (k : Value → W) (again16 : Value → Option Addr → Nat → Nat → Option Addr → Nat → Nat → Int → Int → W) (c_30 : Value) (out_31p : Option Addr) (out_31l : Nat) (out_31c : Nat) (said_32 : Addr) (s33p : Option Addr) (s33l : Nat) (s33c : Nat) (x34 : Int) (x35 : Int) : W :=
 NextT Go.Proofs.Tryd.prog (callMethod c_30 "Size" [].toArray) (.s (.one (.int .u64))) fun x36 =>
 Store1 (said_32.add 2) (.int .i64 (IntKind.wrap .i64 x36)) <|
 LoadT .slice (said_32.add 0) fun s37p s37l s37c =>
 LoadT .slice (said_32.add 1) fun s38p s38l s38c =>
 LoadT (.int .i64) (said_32.add 2) fun x39 =>
 RawT Go.Proofs.Tryd.prog (Instr.buildSlice 30 1 [(0, .agg #[.slice s37p s37l s37c, .slice s38p s38l s38c, .int .i64 x39])].toArray) (.s (.one .slice)) fun s40p s40l s40c =>
 NextT Go.Proofs.Tryd.prog (builtin .append #[30, 30] 30 [false, false].toArray [.slice out_31p out_31l out_31c, .slice s40p s40l s40c].toArray) (.s (.one .slice)) fun s41p s41l s41c =>
 again16 c_30 s41p s41l s41c s33p s33l s33c x34 (addI .i64 x35 1)
def F7_L2 (k : Value → W) (again16 : Value → Option Addr → Nat → Nat → Option Addr → Nat → Nat → Int → Int → W) (again54 : Value → Option Addr → Nat → Nat → Addr → Option Addr → Nat → Nat → Int → Int → Option Addr → Nat → Nat → Int → Int → W) (c_45 : Value) (out_46p : Option Addr) (out_46l : Nat) (out_46c : Nat) (said_47 : Addr) (s48p : Option Addr) (s48l : Nat) (s48c : Nat) (x49 : Int) (x50 : Int) (s51p : Option Addr) (s51l : Nat) (s51c : Nat) (x52 : Int) (x53 : Int) : W :=
 BIf (decide (x53 < x52)) (
  NN s51p fun a55 =>
  Req (0 ≤ x53 ∧ x53 < ((s51l : Nat) : Int)) <|
  LoadT .any (a55.add x53.toNat) fun v56 =>
  RawS Go.Proofs.Tryd.prog (Instr.typeAssert v56 59 53 true) (.tup [(.agg [(.int .i64), (.int .i64)]), (.one .bool)]) fun x57 x58 b59 =>
  New [.int .i64 0, .int .i64 0] 53 fun n60 =>
  Store1 ⟨n60, 0, none⟩ (.int .i64 x57) <|
  Store1 ⟨n60, 1, none⟩ (.int .i64 x58) <|
  Drw <|
  LoadT .slice said_47 fun s61p s61l s61c =>
  LoadT (.int .i64) ⟨n60, 0, none⟩ fun x62 =>
  LoadT (.int .i64) ⟨n60, 1, none⟩ fun x63 =>
  LoadT .slice (said_47.add 1) fun s64p s64l s64c =>
  Both (
   RawT Go.Proofs.Tryd.prog (Instr.buildSlice 32 1 [(0, .agg #[.int .i64 x62, .int .i64 x63])].toArray) (.s (.one .slice)) fun s65p s65l s65c =>
   Chk1 (said_47.add 1) (.slice s64p s64l s64c) <|
   Chk1 said_47 (.slice s61p s61l s61c) <|
   Both (
    NextT Go.Proofs.Tryd.prog (builtin .append #[32, 32] 32 [false, false].toArray [.slice s61p s61l s61c, .slice s65p s65l s65c].toArray) (.s (.one .slice)) fun s66p s66l s66c =>
    Chk1 (said_47.add 1) (.slice s64p s64l s64c) <|
    Chk1 ⟨n60, 0, none⟩ (.int .i64 x62) <|
    Chk1 ⟨n60, 1, none⟩ (.int .i64 x63) <|
    RawT Go.Proofs.Tryd.prog (Instr.buildSlice 33 1 [(0, .bool b59)].toArray) (.s (.one .slice)) fun s67p s67l s67c =>
    Chk1 (said_47.add 1) (.slice s64p s64l s64c) <|
    Chk1 ⟨n60, 0, none⟩ (.int .i64 x62) <|
    Chk1 ⟨n60, 1, none⟩ (.int .i64 x63) <|
    Chk1 said_47 (.slice s61p s61l s61c) <|
    NextT Go.Proofs.Tryd.prog (builtin .append #[33, 33] 33 [false, false].toArray [.slice s64p s64l s64c, .slice s67p s67l s67c].toArray) (.s (.one .slice)) fun s68p s68l s68c =>
    Chk1 ⟨n60, 0, none⟩ (.int .i64 x62) <|
    Chk1 ⟨n60, 1, none⟩ (.int .i64 x63) <|
    Chk1 said_47 (.slice s61p s61l s61c) <|
    Store1 said_47 (.slice s66p s66l s66c) <|
    Store1 (said_47.add 1) (.slice s68p s68l s68c) <|
    again54 c_45 out_46p out_46l out_46c said_47 s48p s48l s48c x49 x50 s51p s51l s51c x52 (addI .i64 x53 1)) (
    RawT Go.Proofs.Tryd.prog (Instr.buildSlice 33 1 [(0, .bool b59)].toArray) (.s (.one .slice)) fun s69p s69l s69c =>
    Chk1 (said_47.add 1) (.slice s64p s64l s64c) <|
    Chk1 ⟨n60, 0, none⟩ (.int .i64 x62) <|
    Chk1 ⟨n60, 1, none⟩ (.int .i64 x63) <|
    Chk1 said_47 (.slice s61p s61l s61c) <|
    NextT Go.Proofs.Tryd.prog (builtin .append #[32, 32] 32 [false, false].toArray [.slice s61p s61l s61c, .slice s65p s65l s65c].toArray) (.s (.one .slice)) fun s70p s70l s70c =>
    Chk1 (said_47.add 1) (.slice s64p s64l s64c) <|
    Chk1 ⟨n60, 0, none⟩ (.int .i64 x62) <|
    Chk1 ⟨n60, 1, none⟩ (.int .i64 x63) <|
    NextT Go.Proofs.Tryd.prog (builtin .append #[33, 33] 33 [false, false].toArray [.slice s64p s64l s64c, .slice s69p s69l s69c].toArray) (.s (.one .slice)) fun s71p s71l s71c =>
    Chk1 ⟨n60, 0, none⟩ (.int .i64 x62) <|
    Chk1 ⟨n60, 1, none⟩ (.int .i64 x63) <|
    Chk1 said_47 (.slice s61p s61l s61c) <|
    Store1 said_47 (.slice s70p s70l s70c) <|
    Store1 (said_47.add 1) (.slice s71p s71l s71c) <|
    again54 c_45 out_46p out_46l out_46c said_47 s48p s48l s48c x49 x50 s51p s51l s51c x52 (addI .i64 x53 1))) (
   RawT Go.Proofs.Tryd.prog (Instr.buildSlice 33 1 [(0, .bool b59)].toArray) (.s (.one .slice)) fun s72p s72l s72c =>
   Chk1 (said_47.add 1) (.slice s64p s64l s64c) <|
   Chk1 ⟨n60, 0, none⟩ (.int .i64 x62) <|
   Chk1 ⟨n60, 1, none⟩ (.int .i64 x63) <|
   Chk1 said_47 (.slice s61p s61l s61c) <|
   RawT Go.Proofs.Tryd.prog (Instr.buildSlice 32 1 [(0, .agg #[.int .i64 x62, .int .i64 x63])].toArray) (.s (.one .slice)) fun s73p s73l s73c =>
   Chk1 (said_47.add 1) (.slice s64p s64l s64c) <|
   Chk1 said_47 (.slice s61p s61l s61c) <|
   NextT Go.Proofs.Tryd.prog (builtin .append #[32, 32] 32 [false, false].toArray [.slice s61p s61l s61c, .slice s73p s73l s73c].toArray) (.s (.one .slice)) fun s74p s74l s74c =>
   Chk1 (said_47.add 1) (.slice s64p s64l s64c) <|
   Chk1 ⟨n60, 0, none⟩ (.int .i64 x62) <|
   Chk1 ⟨n60, 1, none⟩ (.int .i64 x63) <|
   NextT Go.Proofs.Tryd.prog (builtin .append #[33, 33] 33 [false, false].toArray [.slice s64p s64l s64c, .slice s72p s72l s72c].toArray) (.s (.one .slice)) fun s75p s75l s75c =>
   Chk1 ⟨n60, 0, none⟩ (.int .i64 x62) <|
   Chk1 ⟨n60, 1, none⟩ (.int .i64 x63) <|
   Chk1 said_47 (.slice s61p s61l s61c) <|
   Store1 said_47 (.slice s74p s74l s74c) <|
   Store1 (said_47.add 1) (.slice s75p s75l s75c) <|
   again54 c_45 out_46p out_46l out_46c said_47 s48p s48l s48c x49 x50 s51p s51l s51c x52 (addI .i64 x53 1))) (
  F7_J2 k again16 c_45 out_46p out_46l out_46c said_47 s48p s48l s48c x49 x50)
theorem F7_L2_rule {k : Value → W} {again16 : Value → Option Addr → Nat → Nat → Option Addr → Nat → Nat → Int → Int → W} (I : Value → Option Addr → Nat → Nat → Addr → Option Addr → Nat → Nat → Int → Int → Option Addr → Nat → Nat → Int → Int → W) (μ : Value → Option Addr → Nat → Nat → Addr → Option Addr → Nat → Nat → Int → Int → Option Addr → Nat → Nat → Int → Int → World → Nat)
  (hr : ∀ (c_45 : Value) (out_46p : Option Addr) (out_46l : Nat) (out_46c : Nat) (said_47 : Addr) (s48p : Option Addr) (s48l : Nat) (s48c : Nat) (x49 : Int) (x50 : Int) (s51p : Option Addr) (s51l : Nat) (s51c : Nat) (x52 : Int) (x53 : Int) (w : World), I c_45 out_46p out_46l out_46c said_47 s48p s48l s48c x49 x50 s51p s51l s51c x52 x53 w → F7_L2 k again16 (fun c_45' out_46p' out_46l' out_46c' said_47' s48p' s48l' s48c' x49' x50' s51p' s51l' s51c' x52' x53' w' => I c_45' out_46p' out_46l' out_46c' said_47' s48p' s48l' s48c' x49' x50' s51p' s51l' s51c' x52' x53' w' ∧ μ c_45' out_46p' out_46l' out_46c' said_47' s48p' s48l' s48c' x49' x50' s51p' s51l' s51c' x52' x53' w' < μ c_45 out_46p out_46l out_46c said_47 s48p s48l s48c x49 x50 s51p s51l s51c x52 x53 w) c_45 out_46p out_46l out_46c said_47 s48p s48l s48c x49 x50 s51p s51l s51c x52 x53 w)
  {w : World} {c_45 : Value} {out_46p : Option Addr} {out_46l : Nat} {out_46c : Nat} {said_47 : Addr} {s48p : Option Addr} {s48l : Nat} {s48c : Nat} {x49 : Int} {x50 : Int} {s51p : Option Addr} {s51l : Nat} {s51c : Nat} {x52 : Int} {x53 : Int} (h : I c_45 out_46p out_46l out_46c said_47 s48p s48l s48c x49 x50 s51p s51l s51c x52 x53 w) : Loop [.any, .slice, .addr, .slice, (.int .i64), (.int .i64), .slice, (.int .i64), (.int .i64)] (F7_L2 k again16) c_45 out_46p out_46l out_46c said_47 s48p s48l s48c x49 x50 s51p s51l s51c x52 x53 w :=
  Loop_intro (ts := [.any, .slice, .addr, .slice, (.int .i64), (.int .i64), .slice, (.int .i64), (.int .i64)]) (s := (c_45, (out_46p, out_46l, out_46c), said_47, (s48p, s48l, s48c), x49, x50, (s51p, s51l, s51c), x52, x53, ())) (fun s w => I s.1 s.2.1.1 s.2.1.2.1 s.2.1.2.2 s.2.2.1 s.2.2.2.1.1 s.2.2.2.1.2.1 s.2.2.2.1.2.2 s.2.2.2.2.1 s.2.2.2.2.2.1 s.2.2.2.2.2.2.1.1 s.2.2.2.2.2.2.1.2.1 s.2.2.2.2.2.2.1.2.2 s.2.2.2.2.2.2.2.1 s.2.2.2.2.2.2.2.2.1 w) (fun s w => μ s.1 s.2.1.1 s.2.1.2.1 s.2.1.2.2 s.2.2.1 s.2.2.2.1.1 s.2.2.2.1.2.1 s.2.2.2.1.2.2 s.2.2.2.2.1 s.2.2.2.2.2.1 s.2.2.2.2.2.2.1.1 s.2.2.2.2.2.2.1.2.1 s.2.2.2.2.2.2.1.2.2 s.2.2.2.2.2.2.2.1 s.2.2.2.2.2.2.2.2.1 w) h (fun s w h => hr s.1 s.2.1.1 s.2.1.2.1 s.2.1.2.2 s.2.2.1 s.2.2.2.1.1 s.2.2.2.1.2.1 s.2.2.2.1.2.2 s.2.2.2.2.1 s.2.2.2.2.2.1 s.2.2.2.2.2.2.1.1 s.2.2.2.2.2.2.1.2.1 s.2.2.2.2.2.2.1.2.2 s.2.2.2.2.2.2.2.1 s.2.2.2.2.2.2.2.2.1 w h)
def F7_L1 (k : Value → W) (again16 : Value → Option Addr → Nat → Nat → Option Addr → Nat → Nat → Int → Int → W) (c_11 : Value) (out_12p : Option Addr) (out_12l : Nat) (out_12c : Nat) (s13p : Option Addr) (s13l : Nat) (s13c : Nat) (x14 : Int) (x15 : Int) : W :=
 BIf (decide (x15 < x14)) (
  NN s13p fun a17 =>
  Req (0 ≤ x15 ∧ x15 < ((s13l : Nat) : Int)) <|
  LoadT (.int .i64) ((a17.add (x15.toNat * 5)).add 0) fun x18 =>
  LoadT (.int .i64) ((a17.add (x15.toNat * 5)).add 1) fun x19 =>
  LoadT (.int .i64) ((a17.add (x15.toNat * 5)).add 2) fun x20 =>
  LoadT (.int .i64) ((a17.add (x15.toNat * 5)).add 3) fun x21 =>
  LoadT .slice ((a17.add (x15.toNat * 5)).add 4) fun s22p s22l s22c =>
  New [.int .i64 0, .int .i64 0, .int .i64 0, .int .i64 0, .slice none 0 0] 29 fun n23 =>
  Store1 ⟨n23, 0, none⟩ (.int .i64 x18) <|
  Store1 ⟨n23, 1, none⟩ (.int .i64 x19) <|
  Store1 ⟨n23, 2, none⟩ (.int .i64 x20) <|
  Store1 ⟨n23, 3, none⟩ (.int .i64 x21) <|
  Store1 ⟨n23, 4, none⟩ (.slice s22p s22l s22c) <|
  New [.slice none 0 0, .slice none 0 0, .int .i64 0] 35 fun n24 =>
  LoadT (.int .i64) ⟨n23, 0, none⟩ fun x25 =>
  BIf (x25 == 1) (
   Drw <|
   LoadT (.int .i64) ⟨n23, 1, none⟩ fun x26 =>
   LoadT (.int .i64) ⟨n23, 2, none⟩ fun x27 =>
   LoadT (.int .i64) ⟨n23, 3, none⟩ fun x28 =>
   MethOk Go.Proofs.Tryd.prog (.func (.method "Put") #[c_11] #[]) <|
   CallT Go.Proofs.Tryd.prog 13 [.int .i64 x26] (.s (.one .str)) fun u29 =>
   Chk1 ⟨n23, 2, none⟩ (.int .i64 x27) <|
   Chk1 ⟨n23, 3, none⟩ (.int .i64 x28) <|
   NextT Go.Proofs.Tryd.prog (callMethod c_11 "Put" [.string u29, .iface 53 (.agg #[.int .i64 x27, .int .i64 x28])].toArray) (.tup []) <|
   Chk1 ⟨n23, 2, none⟩ (.int .i64 x27) <|
   Chk1 ⟨n23, 3, none⟩ (.int .i64 x28) <|
   Chk1 ⟨n23, 1, none⟩ (.int .i64 x26) <|
   F7_J2 k again16 c_11 out_12p out_12l out_12c ⟨n24, 0, none⟩ s13p s13l s13c x14 x15) (
   BIf (x25 == 2) (
    Drw <|
    LoadT .slice ⟨n23, 4, none⟩ fun s42p s42l s42c =>
    MethOk Go.Proofs.Tryd.prog (.func (.method "Get") #[c_11] #[]) <|
    CallT Go.Proofs.Tryd.prog 14 [.slice s42p s42l s42c] (.s (.one .slice)) fun s43p s43l s43c =>
    NextT Go.Proofs.Tryd.prog (callMethod c_11 "Get" [.slice s43p s43l s43c].toArray) (.s (.one .slice)) fun s44p s44l s44c =>
    Chk1 ⟨n23, 4, none⟩ (.slice s42p s42l s42c) <|
    Loop [.any, .slice, .addr, .slice, (.int .i64), (.int .i64), .slice, (.int .i64), (.int .i64)] (F7_L2 k again16) c_11 out_12p out_12l out_12c ⟨n24, 0, none⟩ s13p s13l s13c x14 x15 s44p s44l s44c ((s44l : Nat) : Int) 0) (
    BIf (x25 == 3) (
     Drw <|
     LoadT .slice ⟨n23, 4, none⟩ fun s76p s76l s76c =>
     MethOk Go.Proofs.Tryd.prog (.func (.method "Remove") #[c_11] #[]) <|
     CallT Go.Proofs.Tryd.prog 14 [.slice s76p s76l s76c] (.s (.one .slice)) fun s77p s77l s77c =>
     NextT Go.Proofs.Tryd.prog (callMethod c_11 "Remove" [.slice s77p s77l s77c].toArray) (.tup []) <|
     Chk1 ⟨n23, 4, none⟩ (.slice s76p s76l s76c) <|
     F7_J2 k again16 c_11 out_12p out_12l out_12c ⟨n24, 0, none⟩ s13p s13l s13c x14 x15) (
     F7_J2 k again16 c_11 out_12p out_12l out_12c ⟨n24, 0, none⟩ s13p s13l s13c x14 x15)))) (
  k (.slice out_12p out_12l out_12c))
theorem F7_L1_rule {k : Value → W} (I : Value → Option Addr → Nat → Nat → Option Addr → Nat → Nat → Int → Int → W) (μ : Value → Option Addr → Nat → Nat → Option Addr → Nat → Nat → Int → Int → World → Nat)
  (hr : ∀ (c_11 : Value) (out_12p : Option Addr) (out_12l : Nat) (out_12c : Nat) (s13p : Option Addr) (s13l : Nat) (s13c : Nat) (x14 : Int) (x15 : Int) (w : World), I c_11 out_12p out_12l out_12c s13p s13l s13c x14 x15 w → F7_L1 k (fun c_11' out_12p' out_12l' out_12c' s13p' s13l' s13c' x14' x15' w' => I c_11' out_12p' out_12l' out_12c' s13p' s13l' s13c' x14' x15' w' ∧ μ c_11' out_12p' out_12l' out_12c' s13p' s13l' s13c' x14' x15' w' < μ c_11 out_12p out_12l out_12c s13p s13l s13c x14 x15 w) c_11 out_12p out_12l out_12c s13p s13l s13c x14 x15 w)
  {w : World} {c_11 : Value} {out_12p : Option Addr} {out_12l : Nat} {out_12c : Nat} {s13p : Option Addr} {s13l : Nat} {s13c : Nat} {x14 : Int} {x15 : Int} (h : I c_11 out_12p out_12l out_12c s13p s13l s13c x14 x15 w) : Loop [.any, .slice, .slice, (.int .i64), (.int .i64)] (F7_L1 k) c_11 out_12p out_12l out_12c s13p s13l s13c x14 x15 w :=
  Loop_intro (ts := [.any, .slice, .slice, (.int .i64), (.int .i64)]) (s := (c_11, (out_12p, out_12l, out_12c), (s13p, s13l, s13c), x14, x15, ())) (fun s w => I s.1 s.2.1.1 s.2.1.2.1 s.2.1.2.2 s.2.2.1.1 s.2.2.1.2.1 s.2.2.1.2.2 s.2.2.2.1 s.2.2.2.2.1 w) (fun s w => μ s.1 s.2.1.1 s.2.1.2.1 s.2.1.2.2 s.2.2.1.1 s.2.2.1.2.1 s.2.2.1.2.2 s.2.2.2.1 s.2.2.2.2.1 w) h (fun s w h => hr s.1 s.2.1.1 s.2.1.2.1 s.2.1.2.2 s.2.2.1.1 s.2.2.1.2.1 s.2.2.1.2.2 s.2.2.2.1 s.2.2.2.2.1 w h)
def F7_J1 (k : Value → W) (capacity_7 : Int) (steps_8p : Option Addr) (steps_8l : Nat) (steps_8c : Nat) (options_9p : Option Addr) (options_9l : Nat) (options_9c : Nat) : W :=
 CallT Go.Proofs.Tryd.prog 12 [.int .u64 (IntKind.wrap .u64 capacity_7), .slice options_9p options_9l options_9c] (.s (.one .any)) fun v10 =>
 Loop [.any, .slice, .slice, (.int .i64), (.int .i64)] (F7_L1 k) v10 none 0 0 steps_8p steps_8l steps_8c ((steps_8l : Nat) : Int) 0
def F7 (k : Value → W) (capacity_1 : Int) (policy_2 : Int) (steps_3p : Option Addr) (steps_3l : Nat) (steps_3c : Nat) : W :=
 BIf (policy_2 == 0) (
  CallT Go.Proofs.Tryd.prog 11 [.int .u8 0] (.s (.one .any)) fun v4 =>
  RawT Go.Proofs.Tryd.prog (Instr.buildSlice 41 1 [(0, v4)].toArray) (.s (.one .slice)) fun s5p s5l s5c =>
  NextT Go.Proofs.Tryd.prog (builtin .append #[41, 41] 41 [false, false].toArray [.slice none 0 0, .slice s5p s5l s5c].toArray) (.s (.one .slice)) fun s6p s6l s6c =>
  F7_J1 k capacity_1 steps_3p steps_3l steps_3c s6p s6l s6c) (
  BIf (policy_2 == 1) (
   CallT Go.Proofs.Tryd.prog 11 [.int .u8 1] (.s (.one .any)) fun v78 =>
   RawT Go.Proofs.Tryd.prog (Instr.buildSlice 41 1 [(0, v78)].toArray) (.s (.one .slice)) fun s79p s79l s79c =>
   NextT Go.Proofs.Tryd.prog (builtin .append #[41, 41] 41 [false, false].toArray [.slice none 0 0, .slice s79p s79l s79c].toArray) (.s (.one .slice)) fun s80p s80l s80c =>
   F7_J1 k capacity_1 steps_3p steps_3l steps_3c s80p s80l s80c) (
   F7_J1 k capacity_1 steps_3p steps_3l steps_3c none 0 0))
theorem F7_eq (k : Value → W) (capacity_1 : Int) (policy_2 : Int) (steps_3p : Option Addr) (steps_3l : Nat) (steps_3c : Nat) : compF Go.Proofs.Tryd.prog Go.Proofs.Tryd.f7 [(10, [(8, .any), (9, .slice), (34, .slice), (35, (.int .i64)), (36, (.int .i64))]), (18, [(8, .any), (9, .slice), (12, .addr), (34, .slice), (35, (.int .i64)), (36, (.int .i64)), (65, .slice), (66, (.int .i64)), (67, (.int .i64))])] (Go.Proofs.Tryd.f7.body.getD .skip) [.int .i64 capacity_1, .int .i64 policy_2, .slice steps_3p steps_3l steps_3c] k = F7 k capacity_1 policy_2 steps_3p steps_3l steps_3c := by kernel_rfl
theorem F7_calls {capacity_1 : Int} {policy_2 : Int} {steps_3p : Option Addr} {steps_3l : Nat} {steps_3c : Nat} {w : World} {R : Ending → World → Prop} (h : F7 (fun v w => R (.returned v) w) capacity_1 policy_2 steps_3p steps_3l steps_3c w) : Calls Go.Proofs.Tryd.prog 7 #[.int .i64 capacity_1, .int .i64 policy_2, .slice steps_3p steps_3l steps_3c] w R :=
  calls_of_compF noNum follows [(10, [(8, .any), (9, .slice), (34, .slice), (35, (.int .i64)), (36, (.int .i64))]), (18, [(8, .any), (9, .slice), (12, .addr), (34, .slice), (35, (.int .i64)), (36, (.int .i64)), (65, .slice), (66, (.int .i64)), (67, (.int .i64))])] (f := 7) (fn := Go.Proofs.Tryd.f7) (body := Go.Proofs.Tryd.f7.body.getD .skip) (args := [.int .i64 capacity_1, .int .i64 policy_2, .slice steps_3p steps_3l steps_3c]) rfl rfl (Nat.le_of_ble_eq_true rfl) ((congrFun (F7_eq _ capacity_1 policy_2 steps_3p steps_3l steps_3c) w).mpr h)
theorem F7_call {capacity_1 : Int} {policy_2 : Int} {steps_3p : Option Addr} {steps_3l : Nat} {steps_3c : Nat} {w : World} {g : Fn W (RTy.leaves (.s (.one .slice)))} (h : F7 (fun v => Back (.s (.one .slice)) g (.returned v)) capacity_1 policy_2 steps_3p steps_3l steps_3c w) : CallT Go.Proofs.Tryd.prog 7 [.int .i64 capacity_1, .int .i64 policy_2, .slice steps_3p steps_3l steps_3c] (.s (.one .slice)) g w := F7_calls h

end Go.Proofs.YtmaejciimpnogaaDoor.E
