/-
  The library's slices.Sort over numbers, as the kit's contract wants it, at this seat's numbers. The lines below were written by the kit's own tool lay-plain.mjs for this seat.
-/
import Derived.Shelf.SlGeneric
import Derived.Shelf.SortM.Plain
import Derived.Test.YtokejbejoegnnaaProg
namespace Go.Proofs
open Go.Shelf
def Try.so5_ren : Go.Shelf.Ren := ⟨fun | 5 => 21 | 8 => 40 | 7 => 39 | 19 => 56 | 20 => 57 | 10 => 47 | 11 => 48 | 12 => 49 | 13 => 50 | 14 => 51 | 15 => 52 | 16 => 53 | 17 => 54 | 18 => 55 | 30 => 62 | 31 => 63 | 32 => 64 | 33 => 65 | 34 => 66 | 35 => 67 | 40 => 76 | n => n, fun | 23 => 24 | 25 => 3 | 3 => 3 | 32 => 85 | 22 => 24 | 0 => 0 | 44 => 113 | 46 => 90 | 4 => 4 | 36 => 105 | 35 => 104 | 41 => 110 | 5 => 5 | 9 => 9 | 53 => 123 | 57 => 126 | 63 => 139 | 64 => 140 | n => n, fun | n => n⟩
theorem Try.so5 : Go.Proofs.SlLaysM.n5 Try.prog Try.so5_ren := {
  mixed := by kernel_rfl
  f5 := ⟨Try.f21.name, by decide, Try.func21.trans (congrArg some (by kernel_rfl))⟩
  f7 := ⟨Try.f39.name, by decide, Try.func39.trans (congrArg some (by kernel_rfl))⟩
  f8 := Try.func40.trans (congrArg some (by kernel_rfl))
  f10 := ⟨Try.f47.name, by decide, Try.func47.trans (congrArg some (by kernel_rfl))⟩
  f11 := ⟨Try.f48.name, by decide, Try.func48.trans (congrArg some (by kernel_rfl))⟩
  f12 := ⟨Try.f49.name, by decide, Try.func49.trans (congrArg some (by kernel_rfl))⟩
  f13 := ⟨Try.f50.name, by decide, Try.func50.trans (congrArg some (by kernel_rfl))⟩
  f14 := ⟨Try.f51.name, by decide, Try.func51.trans (congrArg some (by kernel_rfl))⟩
  f15 := ⟨Try.f52.name, by decide, Try.func52.trans (congrArg some (by kernel_rfl))⟩
  f16 := ⟨Try.f53.name, by decide, Try.func53.trans (congrArg some (by kernel_rfl))⟩
  f17 := ⟨Try.f54.name, by decide, Try.func54.trans (congrArg some (by kernel_rfl))⟩
  f18 := ⟨Try.f55.name, by decide, Try.func55.trans (congrArg some (by kernel_rfl))⟩
  f19 := Try.func56.trans (congrArg some (by kernel_rfl))
  f20 := Try.func57.trans (congrArg some (by kernel_rfl))
  f30 := ⟨Try.f62.name, by decide, Try.func62.trans (congrArg some (by kernel_rfl))⟩
  f31 := Try.func63.trans (congrArg some (by kernel_rfl))
  f32 := Try.func64.trans (congrArg some (by kernel_rfl))
  f33 := ⟨Try.f65.name, by decide, Try.func65.trans (congrArg some (by kernel_rfl))⟩
  f34 := ⟨Try.f66.name, by decide, Try.func66.trans (congrArg some (by kernel_rfl))⟩
  f35 := ⟨Try.f67.name, by decide, Try.func67.trans (congrArg some (by kernel_rfl))⟩
  f40 := ⟨Try.f76.name, by decide, Try.func76.trans (congrArg some (by kernel_rfl))⟩
  t0 := Try.underlying0
  a0 := Try.isAgg0
  z0 := Try.sizeOf0
  v0 := Try.zeroValue0
  t3 := Try.underlying3
  a3 := Try.isAgg3
  z3 := Try.sizeOf3
  v3 := Try.zeroValue3
  t4 := Try.underlying4
  a4 := Try.isAgg4
  z4 := Try.sizeOf4
  v4 := Try.zeroValue4
  t5 := Try.underlying5
  a5 := Try.isAgg5
  z5 := Try.sizeOf5
  v5 := Try.zeroValue5
  t9 := Try.underlying9
  a9 := Try.isAgg9
  z9 := Try.sizeOf9
  v9 := Try.zeroValue9
  t22 := Try.underlying24
  a22 := Try.isAgg24
  z22 := Try.sizeOf24
  v22 := Try.zeroValue24
  t23 := Try.underlying24
  a23 := Try.isAgg24
  z23 := Try.sizeOf24
  v23 := Try.zeroValue24
  t25 := Try.underlying3
  a25 := Try.isAgg3
  z25 := Try.sizeOf3
  v25 := Try.zeroValue3
  t32 := Try.underlying85
  a32 := Try.isAgg85
  z32 := Try.sizeOf85
  v32 := Try.zeroValue85
  t35 := Try.underlying104
  a35 := Try.isAgg104
  z35 := Try.sizeOf104
  v35 := Try.zeroValue104
  t36 := Try.underlying105
  a36 := Try.isAgg105
  z36 := Try.sizeOf105
  v36 := Try.zeroValue105
  t41 := Try.underlying110
  a41 := Try.isAgg110
  z41 := Try.sizeOf110
  v41 := Try.zeroValue110
  t44 := Try.underlying113
  a44 := Try.isAgg113
  z44 := Try.sizeOf113
  v44 := Try.zeroValue113
  t46 := Try.underlying90
  a46 := Try.isAgg90
  z46 := Try.sizeOf90
  v46 := Try.zeroValue90
  t53 := Try.underlying123
  a53 := Try.isAgg123
  z53 := Try.sizeOf123
  v53 := Try.zeroValue123
  t57 := Try.underlying126
  a57 := Try.isAgg126
  z57 := Try.sizeOf126
  v57 := Try.zeroValue126
  t63 := Try.underlying139
  a63 := Try.isAgg139
  z63 := Try.sizeOf139
  v63 := Try.zeroValue139
  t64 := Try.underlying140
  a64 := Try.isAgg140
  z64 := Try.sizeOf140
  v64 := Try.zeroValue140 }
end Go.Proofs
