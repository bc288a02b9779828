/-
  The library's slices.Sort over numbers, as the kit's contract wants it, at this seat's numbers. The lines below were written by the kit's own tool lay-plain.mjs for this seat.
-/
import Derived.Shelf.SlGeneric
import Derived.Shelf.SortM.Plain
import Derived.Test.YtbbidbjefdaagaaDoorProg
namespace Go.Proofs
open Go.Shelf
def Tryd.so5_ren : Go.Shelf.Ren := ⟨fun | 5 => 14 | 8 => 18 | 7 => 17 | 19 => 30 | 20 => 31 | 10 => 21 | 11 => 22 | 12 => 23 | 13 => 24 | 14 => 25 | 15 => 26 | 16 => 27 | 17 => 28 | 18 => 29 | 30 => 40 | 31 => 41 | 32 => 42 | 33 => 43 | 34 => 44 | 35 => 45 | 40 => 49 | n => n, fun | 23 => 29 | 25 => 3 | 3 => 3 | 32 => 49 | 22 => 29 | 0 => 0 | 44 => 63 | 46 => 65 | 4 => 4 | 36 => 55 | 35 => 54 | 41 => 60 | 5 => 5 | 9 => 9 | 53 => 85 | 57 => 89 | 63 => 97 | 64 => 98 | n => n, fun | n => n⟩
theorem Tryd.so5 : Go.Proofs.SlLaysM.n5 Tryd.prog Tryd.so5_ren := {
  mixed := by kernel_rfl
  f5 := ⟨Tryd.f14.name, by decide, Tryd.func14.trans (congrArg some (by kernel_rfl))⟩
  f7 := ⟨Tryd.f17.name, by decide, Tryd.func17.trans (congrArg some (by kernel_rfl))⟩
  f8 := Tryd.func18.trans (congrArg some (by kernel_rfl))
  f10 := ⟨Tryd.f21.name, by decide, Tryd.func21.trans (congrArg some (by kernel_rfl))⟩
  f11 := ⟨Tryd.f22.name, by decide, Tryd.func22.trans (congrArg some (by kernel_rfl))⟩
  f12 := ⟨Tryd.f23.name, by decide, Tryd.func23.trans (congrArg some (by kernel_rfl))⟩
  f13 := ⟨Tryd.f24.name, by decide, Tryd.func24.trans (congrArg some (by kernel_rfl))⟩
  f14 := ⟨Tryd.f25.name, by decide, Tryd.func25.trans (congrArg some (by kernel_rfl))⟩
  f15 := ⟨Tryd.f26.name, by decide, Tryd.func26.trans (congrArg some (by kernel_rfl))⟩
  f16 := ⟨Tryd.f27.name, by decide, Tryd.func27.trans (congrArg some (by kernel_rfl))⟩
  f17 := ⟨Tryd.f28.name, by decide, Tryd.func28.trans (congrArg some (by kernel_rfl))⟩
  f18 := ⟨Tryd.f29.name, by decide, Tryd.func29.trans (congrArg some (by kernel_rfl))⟩
  f19 := Tryd.func30.trans (congrArg some (by kernel_rfl))
  f20 := Tryd.func31.trans (congrArg some (by kernel_rfl))
  f30 := ⟨Tryd.f40.name, by decide, Tryd.func40.trans (congrArg some (by kernel_rfl))⟩
  f31 := Tryd.func41.trans (congrArg some (by kernel_rfl))
  f32 := Tryd.func42.trans (congrArg some (by kernel_rfl))
  f33 := ⟨Tryd.f43.name, by decide, Tryd.func43.trans (congrArg some (by kernel_rfl))⟩
  f34 := ⟨Tryd.f44.name, by decide, Tryd.func44.trans (congrArg some (by kernel_rfl))⟩
  f35 := ⟨Tryd.f45.name, by decide, Tryd.func45.trans (congrArg some (by kernel_rfl))⟩
  f40 := ⟨Tryd.f49.name, by decide, Tryd.func49.trans (congrArg some (by kernel_rfl))⟩
  t0 := Tryd.underlying0
  a0 := Tryd.isAgg0
  z0 := Tryd.sizeOf0
  v0 := Tryd.zeroValue0
  t3 := Tryd.underlying3
  a3 := Tryd.isAgg3
  z3 := Tryd.sizeOf3
  v3 := Tryd.zeroValue3
  t4 := Tryd.underlying4
  a4 := Tryd.isAgg4
  z4 := Tryd.sizeOf4
  v4 := Tryd.zeroValue4
  t5 := Tryd.underlying5
  a5 := Tryd.isAgg5
  z5 := Tryd.sizeOf5
  v5 := Tryd.zeroValue5
  t9 := Tryd.underlying9
  a9 := Tryd.isAgg9
  z9 := Tryd.sizeOf9
  v9 := Tryd.zeroValue9
  t22 := Tryd.underlying29
  a22 := Tryd.isAgg29
  z22 := Tryd.sizeOf29
  v22 := Tryd.zeroValue29
  t23 := Tryd.underlying29
  a23 := Tryd.isAgg29
  z23 := Tryd.sizeOf29
  v23 := Tryd.zeroValue29
  t25 := Tryd.underlying3
  a25 := Tryd.isAgg3
  z25 := Tryd.sizeOf3
  v25 := Tryd.zeroValue3
  t32 := Tryd.underlying49
  a32 := Tryd.isAgg49
  z32 := Tryd.sizeOf49
  v32 := Tryd.zeroValue49
  t35 := Tryd.underlying54
  a35 := Tryd.isAgg54
  z35 := Tryd.sizeOf54
  v35 := Tryd.zeroValue54
  t36 := Tryd.underlying55
  a36 := Tryd.isAgg55
  z36 := Tryd.sizeOf55
  v36 := Tryd.zeroValue55
  t41 := Tryd.underlying60
  a41 := Tryd.isAgg60
  z41 := Tryd.sizeOf60
  v41 := Tryd.zeroValue60
  t44 := Tryd.underlying63
  a44 := Tryd.isAgg63
  z44 := Tryd.sizeOf63
  v44 := Tryd.zeroValue63
  t46 := Tryd.underlying65
  a46 := Tryd.isAgg65
  z46 := Tryd.sizeOf65
  v46 := Tryd.zeroValue65
  t53 := Tryd.underlying85
  a53 := Tryd.isAgg85
  z53 := Tryd.sizeOf85
  v53 := Tryd.zeroValue85
  t57 := Tryd.underlying89
  a57 := Tryd.isAgg89
  z57 := Tryd.sizeOf89
  v57 := Tryd.zeroValue89
  t63 := Tryd.underlying97
  a63 := Tryd.isAgg97
  z63 := Tryd.sizeOf97
  v63 := Tryd.zeroValue97
  t64 := Tryd.underlying98
  a64 := Tryd.isAgg98
  z64 := Tryd.sizeOf98
  v64 := Tryd.zeroValue98 }
end Go.Proofs
