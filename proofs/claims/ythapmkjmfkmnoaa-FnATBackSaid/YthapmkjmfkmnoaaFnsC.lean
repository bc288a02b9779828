/-
  Printed by this session's own program eng.py out of Lean's print of the loaded functions: what each function's body asks, in the engine's words; each is checked against the program by the kernel.
-/
import Derived.Test.YthapmkjmfkmnoaaEng
import Derived.Test.YthapmkjmfkmnoaaFnsA
namespace Go.Proofs.Ythapmkjmfkmnoaa.E
open Go
set_option linter.unusedVariables false
set_option maxRecDepth 100000
/-! ## augmentedtree.tree).delete -/
def F41_J4 (k : Value → W) (again26 : Option Addr → Addr → Option Addr → Option Addr → Int → Int → Option Addr → Int → W) (tree_113 : Option Addr) (dummy_114 : Addr) (found_115 : Option Addr) (parent_116 : Option Addr) (grandParent_117 : Option Addr) (id_118 : Int) (dir_119 : Int) (node_120 : Option Addr) (ivLow_121 : Int) (localDir_122 : Int) : W :=
 NN node_120 fun a123 =>
 Store1 (a123.add 5) (.bool true) <|
 NN grandParent_117 fun a124 =>
 Req (0 ≤ localDir_122 ∧ localDir_122 < (2 : Int)) <|
 LoadT .ptr ((a124.add 3).add localDir_122.toNat) fun p125 =>
 NN p125 fun a126 =>
 Store1 (a126.add 5) (.bool true) <|
 NN grandParent_117 fun a127 =>
 Req (0 ≤ localDir_122 ∧ localDir_122 < (2 : Int)) <|
 LoadT .ptr ((a127.add 3).add localDir_122.toNat) fun p128 =>
 NN p128 fun a129 =>
 Req (0 ≤ (0 : Int) ∧ (0 : Int) < (2 : Int)) <|
 LoadT .ptr ((a129.add 3).add ((0 : Int).toNat)) fun p130 =>
 NN p130 fun a131 =>
 Store1 (a131.add 5) (.bool false) <|
 NN grandParent_117 fun a132 =>
 Req (0 ≤ localDir_122 ∧ localDir_122 < (2 : Int)) <|
 LoadT .ptr ((a132.add 3).add localDir_122.toNat) fun p133 =>
 NN p133 fun a134 =>
 Req (0 ≤ (1 : Int) ∧ (1 : Int) < (2 : Int)) <|
 LoadT .ptr ((a134.add 3).add ((1 : Int).toNat)) fun p135 =>
 NN p135 fun a136 =>
 Store1 (a136.add 5) (.bool false) <|
 again26 tree_113 dummy_114 found_115 parent_116 id_118 dir_119 node_120 ivLow_121
def F41_J3 (k : Value → W) (again26 : Option Addr → Addr → Option Addr → Option Addr → Int → Int → Option Addr → Int → W) (tree_88 : Option Addr) (dummy_89 : Addr) (found_90 : Option Addr) (parent_91 : Option Addr) (grandParent_92 : Option Addr) (last_93 : Int) (otherLast_94 : Int) (id_95 : Int) (dir_96 : Int) (node_97 : Option Addr) (ivLow_98 : Int) (t_99 : Option Addr) (b100 : Bool) : W :=
 BIf b100 (
  NN parent_91 fun a101 =>
  Store1 (a101.add 5) (.bool false) <|
  NN node_97 fun a102 =>
  Store1 (a102.add 5) (.bool true) <|
  NN t_99 fun a103 =>
  Store1 (a103.add 5) (.bool true) <|
  again26 tree_88 dummy_89 found_90 parent_91 id_95 dir_96 node_97 ivLow_98) (
  NN grandParent_92 fun a104 =>
  Req (0 ≤ (1 : Int) ∧ (1 : Int) < (2 : Int)) <|
  LoadT .ptr ((a104.add 3).add ((1 : Int).toNat)) fun p105 =>
  RawS Go.Proofs.Try.prog (binS .eql 68 (.tmp 162) (.tmp 163) (.pointer p105) (.pointer parent_91)) (.s (.one .bool)) fun b106 =>
  CallT Go.Proofs.Try.prog 47 [.bool b106] (.s (.one (.int .i64))) fun x107 =>
  NN t_99 fun a108 =>
  Req (0 ≤ last_93 ∧ last_93 < (2 : Int)) <|
  LoadT .ptr ((a108.add 3).add last_93.toNat) fun p109 =>
  CallT Go.Proofs.Try.prog 46 [.pointer p109] (.s (.one .bool)) fun b110 =>
  BIf b110 (
   Drw <|
   NN grandParent_92 fun a111 =>
   CallT Go.Proofs.Try.prog 49 [.pointer parent_91, .int .i64 last_93] (.s (.one .ptr)) fun p112 =>
   Req (0 ≤ x107 ∧ x107 < (2 : Int)) <|
   Store1 ((a111.add 3).add x107.toNat) (.pointer p112) <|
   F41_J4 k again26 tree_88 dummy_89 found_90 parent_91 grandParent_92 id_95 dir_96 node_97 ivLow_98 x107) (
   NN t_99 fun a137 =>
   Req (0 ≤ otherLast_94 ∧ otherLast_94 < (2 : Int)) <|
   LoadT .ptr ((a137.add 3).add otherLast_94.toNat) fun p138 =>
   CallT Go.Proofs.Try.prog 46 [.pointer p138] (.s (.one .bool)) fun b139 =>
   BIf b139 (
    Drw <|
    NN grandParent_92 fun a140 =>
    CallT Go.Proofs.Try.prog 48 [.pointer parent_91, .int .i64 last_93] (.s (.one .ptr)) fun p141 =>
    Req (0 ≤ x107 ∧ x107 < (2 : Int)) <|
    Store1 ((a140.add 3).add x107.toNat) (.pointer p141) <|
    F41_J4 k again26 tree_88 dummy_89 found_90 parent_91 grandParent_92 id_95 dir_96 node_97 ivLow_98 x107) (
    F41_J4 k again26 tree_88 dummy_89 found_90 parent_91 grandParent_92 id_95 dir_96 node_97 ivLow_98 x107)))
def F41_J2 (k : Value → W) (again26 : Option Addr → Addr → Option Addr → Option Addr → Int → Int → Option Addr → Int → W) (tree_57 : Option Addr) (dummy_58 : Addr) (found_59 : Option Addr) (parent_60 : Option Addr) (grandParent_61 : Option Addr) (last_62 : Int) (otherDir_63 : Int) (otherLast_64 : Int) (id_65 : Int) (dir_66 : Int) (node_67 : Option Addr) (ivLow_68 : Int) (b69 : Bool) : W :=
 BIf b69 (
  NN node_67 fun a70 =>
  Req (0 ≤ otherDir_63 ∧ otherDir_63 < (2 : Int)) <|
  LoadT .ptr ((a70.add 3).add otherDir_63.toNat) fun p71 =>
  CallT Go.Proofs.Try.prog 46 [.pointer p71] (.s (.one .bool)) fun b72 =>
  BIf b72 (
   Drw <|
   NN parent_60 fun a73 =>
   CallT Go.Proofs.Try.prog 48 [.pointer node_67, .int .i64 dir_66] (.s (.one .ptr)) fun p74 =>
   Req (0 ≤ last_62 ∧ last_62 < (2 : Int)) <|
   Store1 ((a73.add 3).add last_62.toNat) (.pointer p74) <|
   NN parent_60 fun a75 =>
   Req (0 ≤ last_62 ∧ last_62 < (2 : Int)) <|
   LoadT .ptr ((a75.add 3).add last_62.toNat) fun p76 =>
   again26 tree_57 dummy_58 found_59 p76 id_65 dir_66 node_67 ivLow_68) (
   NN node_67 fun a77 =>
   Req (0 ≤ otherDir_63 ∧ otherDir_63 < (2 : Int)) <|
   LoadT .ptr ((a77.add 3).add otherDir_63.toNat) fun p78 =>
   CallT Go.Proofs.Try.prog 46 [.pointer p78] (.s (.one .bool)) fun b79 =>
   BIf (!b79) (
    NN parent_60 fun a80 =>
    Req (0 ≤ otherLast_64 ∧ otherLast_64 < (2 : Int)) <|
    LoadT .ptr ((a80.add 3).add otherLast_64.toNat) fun p81 =>
    BIf (!p81.isNone) (
     NN p81 fun a82 =>
     Req (0 ≤ otherLast_64 ∧ otherLast_64 < (2 : Int)) <|
     LoadT .ptr ((a82.add 3).add otherLast_64.toNat) fun p83 =>
     CallT Go.Proofs.Try.prog 46 [.pointer p83] (.s (.one .bool)) fun b84 =>
     BIf (!b84) (
      NN p81 fun a85 =>
      Req (0 ≤ last_62 ∧ last_62 < (2 : Int)) <|
      LoadT .ptr ((a85.add 3).add last_62.toNat) fun p86 =>
      CallT Go.Proofs.Try.prog 46 [.pointer p86] (.s (.one .bool)) fun b87 =>
      F41_J3 k again26 tree_57 dummy_58 found_59 parent_60 grandParent_61 last_62 otherLast_64 id_65 dir_66 node_67 ivLow_68 p81 (!b87)) (
      F41_J3 k again26 tree_57 dummy_58 found_59 parent_60 grandParent_61 last_62 otherLast_64 id_65 dir_66 node_67 ivLow_68 p81 false)) (
     again26 tree_57 dummy_58 found_59 parent_60 id_65 dir_66 node_67 ivLow_68)) (
    again26 tree_57 dummy_58 found_59 parent_60 id_65 dir_66 node_67 ivLow_68))) (
  again26 tree_57 dummy_58 found_59 parent_60 id_65 dir_66 node_67 ivLow_68)
def F41_J1 (k : Value → W) (again26 : Option Addr → Addr → Option Addr → Option Addr → Int → Int → Option Addr → Int → W) (tree_41 : Option Addr) (dummy_42 : Addr) (found_43 : Option Addr) (parent_44 : Option Addr) (grandParent_45 : Option Addr) (last_46 : Int) (otherDir_47 : Int) (otherLast_48 : Int) (id_49 : Int) (dir_50 : Int) (node_51 : Option Addr) (ivLow_52 : Int) : W :=
 CallT Go.Proofs.Try.prog 46 [.pointer node_51] (.s (.one .bool)) fun b53 =>
 BIf (!b53) (
  NN node_51 fun a54 =>
  Req (0 ≤ dir_50 ∧ dir_50 < (2 : Int)) <|
  LoadT .ptr ((a54.add 3).add dir_50.toNat) fun p55 =>
  CallT Go.Proofs.Try.prog 46 [.pointer p55] (.s (.one .bool)) fun b56 =>
  F41_J2 k again26 tree_41 dummy_42 found_43 parent_44 grandParent_45 last_46 otherDir_47 otherLast_48 id_49 dir_50 node_51 ivLow_52 (!b56)) (
  F41_J2 k again26 tree_41 dummy_42 found_43 parent_44 grandParent_45 last_46 otherDir_47 otherLast_48 id_49 dir_50 node_51 ivLow_52 false)
def F41_J5 (k : Value → W) (tree_166 : Option Addr) (dummy_167 : Addr) : W :=
 Req (0 ≤ (1 : Int) ∧ (1 : Int) < (2 : Int)) <|
 LoadT .ptr ((dummy_167.add 3).add ((1 : Int).toNat)) fun p168 =>
 NN tree_166 fun a169 =>
 Store1 a169 (.pointer p168) <|
 NN tree_166 fun a170 =>
 LoadT .ptr a170 fun p171 =>
 BIf (!p171.isNone) (
  NN tree_166 fun a172 =>
  LoadT .ptr a172 fun p173 =>
  NN p173 fun a174 =>
  Store1 (a174.add 5) (.bool false) <|
  k (.tuple #[])) (
  k (.tuple #[]))
def F41_L1 (k : Value → W) (again26 : Option Addr → Addr → Option Addr → Option Addr → Int → Int → Option Addr → Int → W) (tree_18 : Option Addr) (dummy_19 : Addr) (found_20 : Option Addr) (parent_21 : Option Addr) (id_22 : Int) (dir_23 : Int) (node_24 : Option Addr) (ivLow_25 : Int) : W :=
 NN node_24 fun a27 =>
 Req (0 ≤ dir_23 ∧ dir_23 < (2 : Int)) <|
 LoadT .ptr ((a27.add 3).add dir_23.toNat) fun p28 =>
 BIf (!p28.isNone) (
  CallT Go.Proofs.Try.prog 50 [.int .i64 dir_23] (.s (.one (.int .i64))) fun x29 =>
  Drw <|
  NN node_24 fun a30 =>
  Req (0 ≤ dir_23 ∧ dir_23 < (2 : Int)) <|
  LoadT .ptr ((a30.add 3).add dir_23.toNat) fun p31 =>
  Drw <|
  NN p31 fun a32 =>
  LoadT .any a32 fun v33 =>
  NN p31 fun a34 =>
  LoadT (.int .u64) (a34.add 6) fun x35 =>
  NextT Go.Proofs.Try.prog (callMethod v33 "LowAtDimension" [.int .u64 1].toArray) (.s (.one (.int .i64))) fun x36 =>
  Chk1 (a34.add 6) (.int .u64 x35) <|
  CallT Go.Proofs.Try.prog 51 [.int .i64 x36, .int .i64 ivLow_25, .int .u64 x35, .int .u64 id_22] (.s (.one (.int .i64))) fun x37 =>
  Chk1 a32 v33 <|
  CallT Go.Proofs.Try.prog 50 [.int .i64 x37] (.s (.one (.int .i64))) fun x38 =>
  NN p31 fun a39 =>
  LoadT (.int .u64) (a39.add 6) fun x40 =>
  BIf (x40 == id_22) (
   F41_J1 k again26 tree_18 dummy_19 p31 node_24 parent_21 dir_23 x38 x29 id_22 x37 p31 ivLow_25) (
   F41_J1 k again26 tree_18 dummy_19 found_20 node_24 parent_21 dir_23 x38 x29 id_22 x37 p31 ivLow_25)) (
  BIf (!found_20.isNone) (
   NN tree_18 fun a142 =>
   LoadT (.int .u64) (a142.add 2) fun x143 =>
   Store1 (a142.add 2) (.int .u64 (subI .u64 x143 1)) <|
   Drw <|
   NN node_24 fun a144 =>
   LoadT .any a144 fun v145 =>
   NN node_24 fun a146 =>
   LoadT (.int .i64) (a146.add 1) fun x147 =>
   NN node_24 fun a148 =>
   LoadT (.int .i64) (a148.add 2) fun x149 =>
   NN node_24 fun a150 =>
   LoadT (.int .u64) (a150.add 6) fun x151 =>
   NN found_20 fun a152 =>
   Req (oneC v145 = true) <|
   Store1 a152 v145 <|
   NN found_20 fun a153 =>
   Store1 (a153.add 1) (.int .i64 x147) <|
   NN found_20 fun a154 =>
   Store1 (a154.add 2) (.int .i64 x149) <|
   NN found_20 fun a155 =>
   Store1 (a155.add 6) (.int .u64 x151) <|
   NN parent_21 fun a156 =>
   Req (0 ≤ (1 : Int) ∧ (1 : Int) < (2 : Int)) <|
   LoadT .ptr ((a156.add 3).add ((1 : Int).toNat)) fun p157 =>
   RawS Go.Proofs.Try.prog (binS .eql 68 (.tmp 272) (.tmp 273) (.pointer p157) (.pointer node_24)) (.s (.one .bool)) fun b158 =>
   CallT Go.Proofs.Try.prog 47 [.bool b158] (.s (.one (.int .i64))) fun x159 =>
   NN node_24 fun a160 =>
   Req (0 ≤ (0 : Int) ∧ (0 : Int) < (2 : Int)) <|
   LoadT .ptr ((a160.add 3).add ((0 : Int).toNat)) fun p161 =>
   CallT Go.Proofs.Try.prog 47 [.bool p161.isNone] (.s (.one (.int .i64))) fun x162 =>
   Drw <|
   NN node_24 fun a163 =>
   Req (0 ≤ x162 ∧ x162 < (2 : Int)) <|
   LoadT .ptr ((a163.add 3).add x162.toNat) fun p164 =>
   NN parent_21 fun a165 =>
   Req (0 ≤ x159 ∧ x159 < (2 : Int)) <|
   Store1 ((a165.add 3).add x159.toNat) (.pointer p164) <|
   F41_J5 k tree_18 dummy_19) (
   F41_J5 k tree_18 dummy_19))
theorem F41_L1_rule {k : Value → W} (I : Option Addr → Addr → Option Addr → Option Addr → Int → Int → Option Addr → Int → W) (μ : Option Addr → Addr → Option Addr → Option Addr → Int → Int → Option Addr → Int → World → Nat)
  (hr : ∀ (tree_18 : Option Addr) (dummy_19 : Addr) (found_20 : Option Addr) (parent_21 : Option Addr) (id_22 : Int) (dir_23 : Int) (node_24 : Option Addr) (ivLow_25 : Int) (w : World), I tree_18 dummy_19 found_20 parent_21 id_22 dir_23 node_24 ivLow_25 w → F41_L1 k (fun tree_18' dummy_19' found_20' parent_21' id_22' dir_23' node_24' ivLow_25' w' => I tree_18' dummy_19' found_20' parent_21' id_22' dir_23' node_24' ivLow_25' w' ∧ μ tree_18' dummy_19' found_20' parent_21' id_22' dir_23' node_24' ivLow_25' w' < μ tree_18 dummy_19 found_20 parent_21 id_22 dir_23 node_24 ivLow_25 w) tree_18 dummy_19 found_20 parent_21 id_22 dir_23 node_24 ivLow_25 w)
  {w : World} {tree_18 : Option Addr} {dummy_19 : Addr} {found_20 : Option Addr} {parent_21 : Option Addr} {id_22 : Int} {dir_23 : Int} {node_24 : Option Addr} {ivLow_25 : Int} (h : I tree_18 dummy_19 found_20 parent_21 id_22 dir_23 node_24 ivLow_25 w) : Loop [.ptr, .addr, .ptr, .ptr, (.int .u64), (.int .i64), .ptr, (.int .i64)] (F41_L1 k) tree_18 dummy_19 found_20 parent_21 id_22 dir_23 node_24 ivLow_25 w :=
  Loop_intro (ts := [.ptr, .addr, .ptr, .ptr, (.int .u64), (.int .i64), .ptr, (.int .i64)]) (s := (tree_18, dummy_19, found_20, parent_21, id_22, dir_23, node_24, ivLow_25, ())) (fun s w => I s.1 s.2.1 s.2.2.1 s.2.2.2.1 s.2.2.2.2.1 s.2.2.2.2.2.1 s.2.2.2.2.2.2.1 s.2.2.2.2.2.2.2.1 w) (fun s w => μ s.1 s.2.1 s.2.2.1 s.2.2.2.1 s.2.2.2.2.1 s.2.2.2.2.2.1 s.2.2.2.2.2.2.1 s.2.2.2.2.2.2.2.1 w) h (fun s w h => hr s.1 s.2.1 s.2.2.1 s.2.2.2.1 s.2.2.2.2.1 s.2.2.2.2.2.1 s.2.2.2.2.2.2.1 s.2.2.2.2.2.2.2.1 w h)
def F41 (k : Value → W) (tree_1 : Option Addr) (iv_2 : Value) : W :=
 NN tree_1 fun a3 =>
 LoadT .ptr a3 fun p4 =>
 BIf p4.isNone (
  k (.tuple #[])) (
  CallT Go.Proofs.Try.prog 39 [.pointer tree_1] (.tup []) <|
  NN tree_1 fun a5 =>
  LoadT .any ((a5.add 3).add 0) fun v6 =>
  LoadT (.int .i64) ((a5.add 3).add 1) fun x7 =>
  LoadT (.int .i64) ((a5.add 3).add 2) fun x8 =>
  LoadT .ptr ((a5.add 3).add 3) fun p9 =>
  LoadT .ptr ((a5.add 3).add 4) fun p10 =>
  LoadT .bool ((a5.add 3).add 5) fun b11 =>
  LoadT (.int .u64) ((a5.add 3).add 6) fun x12 =>
  New [.nilIface, .int .i64 0, .int .i64 0, .pointer none, .pointer none, .bool false, .int .u64 0] 71 fun n13 =>
  Store1 ⟨n13, 0, none⟩ v6 <|
  Store1 ⟨n13, 1, none⟩ (.int .i64 x7) <|
  Store1 ⟨n13, 2, none⟩ (.int .i64 x8) <|
  Store1 ⟨n13, 3, none⟩ (.pointer p9) <|
  Store1 ⟨n13, 4, none⟩ (.pointer p10) <|
  Store1 ⟨n13, 5, none⟩ (.bool b11) <|
  Store1 ⟨n13, 6, none⟩ (.int .u64 x12) <|
  NextT Go.Proofs.Try.prog (callMethod iv_2 "ID" [].toArray) (.s (.one (.int .u64))) fun x14 =>
  NextT Go.Proofs.Try.prog (callMethod iv_2 "LowAtDimension" [.int .u64 1].toArray) (.s (.one (.int .i64))) fun x15 =>
  Drw <|
  NN tree_1 fun a16 =>
  LoadT .ptr a16 fun p17 =>
  Req (0 ≤ (1 : Int) ∧ (1 : Int) < (2 : Int)) <|
  Store1 ((⟨n13, 3, none⟩ : Addr).add ((1 : Int).toNat)) (.pointer p17) <|
  Loop [.ptr, .addr, .ptr, .ptr, (.int .u64), (.int .i64), .ptr, (.int .i64)] (F41_L1 k) tree_1 ⟨n13, 0, none⟩ none none x14 1 (some ⟨n13, 0, none⟩) x15)
theorem F41_eq (k : Value → W) (tree_1 : Option Addr) (iv_2 : Value) : compF Go.Proofs.Try.prog Go.Proofs.Try.f41 [(10, [(0, .ptr), (4, .addr), (5, .ptr), (6, .ptr), (11, (.int .u64)), (12, (.int .i64)), (13, .ptr), (14, (.int .i64))])] (Go.Proofs.Try.f41.body.getD .skip) [.pointer tree_1, iv_2] k = F41 k tree_1 iv_2 := by kernel_rfl
theorem F41_calls {tree_1 : Option Addr} {iv_2 : Value} {w : World} {R : Ending → World → Prop} (h : F41 (fun v w => R (.returned v) w) tree_1 iv_2 w) : Calls Go.Proofs.Try.prog 41 #[.pointer tree_1, iv_2] w R :=
  calls_of_compF noNum follows [(10, [(0, .ptr), (4, .addr), (5, .ptr), (6, .ptr), (11, (.int .u64)), (12, (.int .i64)), (13, .ptr), (14, (.int .i64))])] (f := 41) (fn := Go.Proofs.Try.f41) (body := Go.Proofs.Try.f41.body.getD .skip) (args := [.pointer tree_1, iv_2]) rfl rfl (Nat.le_of_ble_eq_true rfl) ((congrFun (F41_eq _ tree_1 iv_2) w).mpr h)
theorem F41_call {tree_1 : Option Addr} {iv_2 : Value} {w : World} {g : Fn W (RTy.leaves (.tup []))} (h : F41 (fun v => Back (.tup []) g (.returned v)) tree_1 iv_2 w) : CallT Go.Proofs.Try.prog 41 [.pointer tree_1, iv_2] (.tup []) g w := F41_calls h

/-! ## augmentedtree.tree).Delete -/
def F35_L1 (k : Value → W) (again7 : Option Addr → Option Addr → Nat → Nat → Int → Int → W) (tree_3 : Option Addr) (s4p : Option Addr) (s4l : Nat) (s4c : Nat) (x5 : Int) (x6 : Int) : W :=
 BIf (decide (x6 < x5)) (
  NN s4p fun a8 =>
  Req (0 ≤ x6 ∧ x6 < ((s4l : Nat) : Int)) <|
  LoadT .any (a8.add x6.toNat) fun v9 =>
  CallT Go.Proofs.Try.prog 41 [.pointer tree_3, v9] (.tup []) <|
  again7 tree_3 s4p s4l s4c x5 (addI .i64 x6 1)) (
  NN tree_3 fun a10 =>
  LoadT .ptr a10 fun p11 =>
  BIf (!p11.isNone) (
   NN tree_3 fun a12 =>
   LoadT .ptr a12 fun p13 =>
   CallT Go.Proofs.Try.prog 42 [.pointer p13] (.tup []) <|
   k (.tuple #[])) (
   k (.tuple #[])))
theorem F35_L1_rule {k : Value → W} (I : Option Addr → Option Addr → Nat → Nat → Int → Int → W) (μ : Option Addr → Option Addr → Nat → Nat → Int → Int → World → Nat)
  (hr : ∀ (tree_3 : Option Addr) (s4p : Option Addr) (s4l : Nat) (s4c : Nat) (x5 : Int) (x6 : Int) (w : World), I tree_3 s4p s4l s4c x5 x6 w → F35_L1 k (fun tree_3' s4p' s4l' s4c' x5' x6' w' => I tree_3' s4p' s4l' s4c' x5' x6' w' ∧ μ tree_3' s4p' s4l' s4c' x5' x6' w' < μ tree_3 s4p s4l s4c x5 x6 w) tree_3 s4p s4l s4c x5 x6 w)
  {w : World} {tree_3 : Option Addr} {s4p : Option Addr} {s4l : Nat} {s4c : Nat} {x5 : Int} {x6 : Int} (h : I tree_3 s4p s4l s4c x5 x6 w) : Loop [.ptr, .slice, (.int .i64), (.int .i64)] (F35_L1 k) tree_3 s4p s4l s4c x5 x6 w :=
  Loop_intro (ts := [.ptr, .slice, (.int .i64), (.int .i64)]) (s := (tree_3, (s4p, s4l, s4c), x5, x6, ())) (fun s w => I s.1 s.2.1.1 s.2.1.2.1 s.2.1.2.2 s.2.2.1 s.2.2.2.1 w) (fun s w => μ s.1 s.2.1.1 s.2.1.2.1 s.2.1.2.2 s.2.2.1 s.2.2.2.1 w) h (fun s w h => hr s.1 s.2.1.1 s.2.1.2.1 s.2.1.2.2 s.2.2.1 s.2.2.2.1 w h)
def F35 (k : Value → W) (tree_1 : Option Addr) (intervals_2p : Option Addr) (intervals_2l : Nat) (intervals_2c : Nat) : W :=
 Loop [.ptr, .slice, (.int .i64), (.int .i64)] (F35_L1 k) tree_1 intervals_2p intervals_2l intervals_2c ((intervals_2l : Nat) : Int) 0
theorem F35_eq (k : Value → W) (tree_1 : Option Addr) (intervals_2p : Option Addr) (intervals_2l : Nat) (intervals_2c : Nat) : compF Go.Proofs.Try.prog Go.Proofs.Try.f35 [(1, [(0, .ptr), (6, .slice), (7, (.int .i64)), (8, (.int .i64))])] (Go.Proofs.Try.f35.body.getD .skip) [.pointer tree_1, .slice intervals_2p intervals_2l intervals_2c] k = F35 k tree_1 intervals_2p intervals_2l intervals_2c := by kernel_rfl
theorem F35_calls {tree_1 : Option Addr} {intervals_2p : Option Addr} {intervals_2l : Nat} {intervals_2c : Nat} {w : World} {R : Ending → World → Prop} (h : F35 (fun v w => R (.returned v) w) tree_1 intervals_2p intervals_2l intervals_2c w) : Calls Go.Proofs.Try.prog 35 #[.pointer tree_1, .slice intervals_2p intervals_2l intervals_2c] w R :=
  calls_of_compF noNum follows [(1, [(0, .ptr), (6, .slice), (7, (.int .i64)), (8, (.int .i64))])] (f := 35) (fn := Go.Proofs.Try.f35) (body := Go.Proofs.Try.f35.body.getD .skip) (args := [.pointer tree_1, .slice intervals_2p intervals_2l intervals_2c]) rfl rfl (Nat.le_of_ble_eq_true rfl) ((congrFun (F35_eq _ tree_1 intervals_2p intervals_2l intervals_2c) w).mpr h)
theorem F35_call {tree_1 : Option Addr} {intervals_2p : Option Addr} {intervals_2l : Nat} {intervals_2c : Nat} {w : World} {g : Fn W (RTy.leaves (.tup []))} (h : F35 (fun v => Back (.tup []) g (.returned v)) tree_1 intervals_2p intervals_2l intervals_2c w) : CallT Go.Proofs.Try.prog 35 [.pointer tree_1, .slice intervals_2p intervals_2l intervals_2c] (.tup []) g w := F35_calls h

end Go.Proofs.Ythapmkjmfkmnoaa.E
