/-
  The library's slices.Sort over numbers, as the kit's contract wants it, at this seat's numbers. The lines below were written by the kit's own tool lay-plain.mjs for this seat.
-/
import Derived.Shelf.SlGeneric
import Derived.Shelf.SortM.Plain
import Derived.Test.YtpjjnckgjohaeaaProg
namespace Go.Proofs
open Go.Shelf
def Try.so5_ren : Go.Shelf.Ren := ⟨fun | 5 => 38 | 8 => 42 | 7 => 44 | 19 => 52 | 20 => 53 | 10 => 62 | 11 => 63 | 12 => 64 | 13 => 65 | 14 => 66 | 15 => 67 | 16 => 68 | 17 => 69 | 18 => 70 | 30 => 77 | 31 => 78 | 32 => 79 | 33 => 80 | 34 => 81 | 35 => 82 | 40 => 84 | n => n, fun | 23 => 36 | 25 => 3 | 3 => 3 | 32 => 76 | 22 => 36 | 0 => 0 | 44 => 87 | 46 => 80 | 4 => 4 | 36 => 100 | 35 => 99 | 41 => 96 | 5 => 5 | 9 => 9 | 53 => 113 | 57 => 111 | 63 => 119 | 64 => 117 | n => n, fun | n => n⟩
theorem Try.so5 : Go.Proofs.SlLaysM.n5 Try.prog Try.so5_ren := {
  mixed := by kernel_rfl
  f5 := ⟨Try.f38.name, by decide, Try.func38.trans (congrArg some (by kernel_rfl))⟩
  f7 := ⟨Try.f44.name, by decide, Try.func44.trans (congrArg some (by kernel_rfl))⟩
  f8 := Try.func42.trans (congrArg some (by kernel_rfl))
  f10 := ⟨Try.f62.name, by decide, Try.func62.trans (congrArg some (by kernel_rfl))⟩
  f11 := ⟨Try.f63.name, by decide, Try.func63.trans (congrArg some (by kernel_rfl))⟩
  f12 := ⟨Try.f64.name, by decide, Try.func64.trans (congrArg some (by kernel_rfl))⟩
  f13 := ⟨Try.f65.name, by decide, Try.func65.trans (congrArg some (by kernel_rfl))⟩
  f14 := ⟨Try.f66.name, by decide, Try.func66.trans (congrArg some (by kernel_rfl))⟩
  f15 := ⟨Try.f67.name, by decide, Try.func67.trans (congrArg some (by kernel_rfl))⟩
  f16 := ⟨Try.f68.name, by decide, Try.func68.trans (congrArg some (by kernel_rfl))⟩
  f17 := ⟨Try.f69.name, by decide, Try.func69.trans (congrArg some (by kernel_rfl))⟩
  f18 := ⟨Try.f70.name, by decide, Try.func70.trans (congrArg some (by kernel_rfl))⟩
  f19 := Try.func52.trans (congrArg some (by kernel_rfl))
  f20 := Try.func53.trans (congrArg some (by kernel_rfl))
  f30 := ⟨Try.f77.name, by decide, Try.func77.trans (congrArg some (by kernel_rfl))⟩
  f31 := Try.func78.trans (congrArg some (by kernel_rfl))
  f32 := Try.func79.trans (congrArg some (by kernel_rfl))
  f33 := ⟨Try.f80.name, by decide, Try.func80.trans (congrArg some (by kernel_rfl))⟩
  f34 := ⟨Try.f81.name, by decide, Try.func81.trans (congrArg some (by kernel_rfl))⟩
  f35 := ⟨Try.f82.name, by decide, Try.func82.trans (congrArg some (by kernel_rfl))⟩
  f40 := ⟨Try.f84.name, by decide, Try.func84.trans (congrArg some (by kernel_rfl))⟩
  t0 := Try.underlying0
  a0 := Try.isAgg0
  z0 := Try.sizeOf0
  v0 := Try.zeroValue0
  t3 := Try.underlying3
  a3 := Try.isAgg3
  z3 := Try.sizeOf3
  v3 := Try.zeroValue3
  t4 := Try.underlying4
  a4 := Try.isAgg4
  z4 := Try.sizeOf4
  v4 := Try.zeroValue4
  t5 := Try.underlying5
  a5 := Try.isAgg5
  z5 := Try.sizeOf5
  v5 := Try.zeroValue5
  t9 := Try.underlying9
  a9 := Try.isAgg9
  z9 := Try.sizeOf9
  v9 := Try.zeroValue9
  t22 := Try.underlying36
  a22 := Try.isAgg36
  z22 := Try.sizeOf36
  v22 := Try.zeroValue36
  t23 := Try.underlying36
  a23 := Try.isAgg36
  z23 := Try.sizeOf36
  v23 := Try.zeroValue36
  t25 := Try.underlying3
  a25 := Try.isAgg3
  z25 := Try.sizeOf3
  v25 := Try.zeroValue3
  t32 := Try.underlying76
  a32 := Try.isAgg76
  z32 := Try.sizeOf76
  v32 := Try.zeroValue76
  t35 := Try.underlying99
  a35 := Try.isAgg99
  z35 := Try.sizeOf99
  v35 := Try.zeroValue99
  t36 := Try.underlying100
  a36 := Try.isAgg100
  z36 := Try.sizeOf100
  v36 := Try.zeroValue100
  t41 := Try.underlying96
  a41 := Try.isAgg96
  z41 := Try.sizeOf96
  v41 := Try.zeroValue96
  t44 := Try.underlying87
  a44 := Try.isAgg87
  z44 := Try.sizeOf87
  v44 := Try.zeroValue87
  t46 := Try.underlying80
  a46 := Try.isAgg80
  z46 := Try.sizeOf80
  v46 := Try.zeroValue80
  t53 := Try.underlying113
  a53 := Try.isAgg113
  z53 := Try.sizeOf113
  v53 := Try.zeroValue113
  t57 := Try.underlying111
  a57 := Try.isAgg111
  z57 := Try.sizeOf111
  v57 := Try.zeroValue111
  t63 := Try.underlying119
  a63 := Try.isAgg119
  z63 := Try.sizeOf119
  v63 := Try.zeroValue119
  t64 := Try.underlying117
  a64 := Try.isAgg117
  z64 := Try.sizeOf117
  v64 := Try.zeroValue117 }
end Go.Proofs
