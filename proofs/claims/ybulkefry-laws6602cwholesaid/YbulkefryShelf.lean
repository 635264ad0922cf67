/- slices.SortFunc at the law's classes: which numbers the library's contract bears in this program (written by the kit's tool lay-plain for this program). -/
import Derived.Shelf.SlSortCmp.WholeK
import Derived.Ground.SlsfProg
import Derived.Test.YbulkefryProg
namespace Go.Proofs.Ybulkefry
open Go.Shelf
def sortC_ren : Go.Shelf.Ren := ⟨fun | 6 => 5 | 15 => 13 | 14 => 12 | 28 => 27 | 29 => 28 | 20 => 19 | 21 => 20 | 22 => 21 | 23 => 22 | 24 => 23 | 25 => 24 | 26 => 25 | 27 => 26 | 46 => 30 | 47 => 31 | 48 => 32 | 49 => 33 | 50 => 34 | 57 => 36 | n => n, fun | 22 => 22 | 24 => 25 | 25 => 28 | 3 => 3 | 39 => 57 | 0 => 0 | 53 => 72 | 55 => 35 | 4 => 4 | 46 => 65 | 45 => 64 | 50 => 69 | 5 => 5 | 9 => 9 | 66 => 75 | 70 => 79 | 76 => 82 | 77 => 83 | n => n, fun | n => n⟩
set_option maxRecDepth 100000 in
theorem sortC : Go.Proofs.SlLaysF0.n6 Yba.prog sortC_ren := {
  mixed := by kernel_rfl
  f6 := ⟨Yba.f5.name, by decide, Yba.func5.trans (congrArg some (by kernel_rfl))⟩
  f14 := ⟨Yba.f12.name, by decide, Yba.func12.trans (congrArg some (by kernel_rfl))⟩
  f15 := Yba.func13.trans (congrArg some (by kernel_rfl))
  f20 := ⟨Yba.f19.name, by decide, Yba.func19.trans (congrArg some (by kernel_rfl))⟩
  f21 := ⟨Yba.f20.name, by decide, Yba.func20.trans (congrArg some (by kernel_rfl))⟩
  f22 := ⟨Yba.f21.name, by decide, Yba.func21.trans (congrArg some (by kernel_rfl))⟩
  f23 := ⟨Yba.f22.name, by decide, Yba.func22.trans (congrArg some (by kernel_rfl))⟩
  f24 := ⟨Yba.f23.name, by decide, Yba.func23.trans (congrArg some (by kernel_rfl))⟩
  f25 := ⟨Yba.f24.name, by decide, Yba.func24.trans (congrArg some (by kernel_rfl))⟩
  f26 := ⟨Yba.f25.name, by decide, Yba.func25.trans (congrArg some (by kernel_rfl))⟩
  f27 := ⟨Yba.f26.name, by decide, Yba.func26.trans (congrArg some (by kernel_rfl))⟩
  f28 := Yba.func27.trans (congrArg some (by kernel_rfl))
  f29 := Yba.func28.trans (congrArg some (by kernel_rfl))
  f46 := ⟨Yba.f30.name, by decide, Yba.func30.trans (congrArg some (by kernel_rfl))⟩
  f47 := Yba.func31.trans (congrArg some (by kernel_rfl))
  f48 := Yba.func32.trans (congrArg some (by kernel_rfl))
  f49 := ⟨Yba.f33.name, by decide, Yba.func33.trans (congrArg some (by kernel_rfl))⟩
  f50 := ⟨Yba.f34.name, by decide, Yba.func34.trans (congrArg some (by kernel_rfl))⟩
  f57 := ⟨Yba.f36.name, by decide, Yba.func36.trans (congrArg some (by kernel_rfl))⟩
  t0 := Yba.underlying0
  a0 := Yba.isAgg0
  z0 := Yba.sizeOf0
  v0 := Yba.zeroValue0
  t3 := Yba.underlying3
  a3 := Yba.isAgg3
  z3 := Yba.sizeOf3
  v3 := Yba.zeroValue3
  t4 := Yba.underlying4
  a4 := Yba.isAgg4
  z4 := Yba.sizeOf4
  v4 := Yba.zeroValue4
  t5 := Yba.underlying5
  a5 := Yba.isAgg5
  z5 := Yba.sizeOf5
  v5 := Yba.zeroValue5
  t9 := Yba.underlying9
  a9 := Yba.isAgg9
  z9 := Yba.sizeOf9
  v9 := Yba.zeroValue9
  t22 := Yba.underlying22
  a22 := Yba.isAgg22
  z22 := Yba.sizeOf22
  v22 := Yba.zeroValue22
  t25 := Yba.underlying28
  a25 := Yba.isAgg28
  z25 := Yba.sizeOf28
  v25 := Yba.zeroValue28
  t39 := Yba.underlying57
  a39 := Yba.isAgg57
  z39 := Yba.sizeOf57
  v39 := Yba.zeroValue57
  t45 := Yba.underlying64
  a45 := Yba.isAgg64
  z45 := Yba.sizeOf64
  v45 := Yba.zeroValue64
  t46 := Yba.underlying65
  a46 := Yba.isAgg65
  z46 := Yba.sizeOf65
  v46 := Yba.zeroValue65
  t50 := Yba.underlying69
  a50 := Yba.isAgg69
  z50 := Yba.sizeOf69
  v50 := Yba.zeroValue69
  t53 := Yba.underlying72
  a53 := Yba.isAgg72
  z53 := Yba.sizeOf72
  v53 := Yba.zeroValue72
  t55 := Yba.underlying35
  a55 := Yba.isAgg35
  z55 := Yba.sizeOf35
  v55 := Yba.zeroValue35
  t66 := Yba.underlying75
  a66 := Yba.isAgg75
  z66 := Yba.sizeOf75
  v66 := Yba.zeroValue75
  t70 := Yba.underlying79
  a70 := Yba.isAgg79
  z70 := Yba.sizeOf79
  v70 := Yba.zeroValue79
  t76 := Yba.underlying82
  a76 := Yba.isAgg82
  z76 := Yba.sizeOf82
  v76 := Yba.zeroValue82
  t77 := Yba.underlying83
  a77 := Yba.isAgg83
  z77 := Yba.sizeOf83
  v77 := Yba.zeroValue83 }
end Go.Proofs.Ybulkefry
