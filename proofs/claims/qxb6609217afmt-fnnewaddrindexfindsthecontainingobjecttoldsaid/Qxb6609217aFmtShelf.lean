/-
  Laid by the kit (lay-plain) for this program: slices.SortFunc at graph.indexed.
-/
import Derived.Shelf.SlSortCmp.WholeK
import Derived.Ground.SlsfProg
import Derived.Test.Qxb6609217aFmtProg
namespace Go.Proofs
open Go.Shelf
def Tryf.sortIx_ren : Go.Shelf.Ren := ⟨fun | 6 => 33 | 15 => 42 | 14 => 41 | 28 => 54 | 29 => 55 | 20 => 46 | 21 => 47 | 22 => 48 | 23 => 49 | 24 => 50 | 25 => 51 | 26 => 52 | 27 => 53 | 46 => 56 | 47 => 57 | 48 => 58 | 49 => 59 | 50 => 60 | 57 => 61 | n => n, fun | 22 => 79 | 24 => 83 | 25 => 90 | 3 => 3 | 39 => 97 | 0 => 0 | 53 => 57 | 55 => 27 | 4 => 4 | 46 => 104 | 45 => 103 | 50 => 73 | 5 => 5 | 9 => 9 | 66 => 114 | 70 => 118 | 76 => 120 | 77 => 121 | n => n, fun | n => n⟩
theorem Tryf.sortIx : Go.Proofs.SlLaysF0.n6 Tryf.prog Tryf.sortIx_ren := {
  mixed := by kernel_rfl
  f6 := ⟨Tryf.f33.name, by decide, Tryf.func33.trans (congrArg some (by kernel_rfl))⟩
  f14 := ⟨Tryf.f41.name, by decide, Tryf.func41.trans (congrArg some (by kernel_rfl))⟩
  f15 := Tryf.func42.trans (congrArg some (by kernel_rfl))
  f20 := ⟨Tryf.f46.name, by decide, Tryf.func46.trans (congrArg some (by kernel_rfl))⟩
  f21 := ⟨Tryf.f47.name, by decide, Tryf.func47.trans (congrArg some (by kernel_rfl))⟩
  f22 := ⟨Tryf.f48.name, by decide, Tryf.func48.trans (congrArg some (by kernel_rfl))⟩
  f23 := ⟨Tryf.f49.name, by decide, Tryf.func49.trans (congrArg some (by kernel_rfl))⟩
  f24 := ⟨Tryf.f50.name, by decide, Tryf.func50.trans (congrArg some (by kernel_rfl))⟩
  f25 := ⟨Tryf.f51.name, by decide, Tryf.func51.trans (congrArg some (by kernel_rfl))⟩
  f26 := ⟨Tryf.f52.name, by decide, Tryf.func52.trans (congrArg some (by kernel_rfl))⟩
  f27 := ⟨Tryf.f53.name, by decide, Tryf.func53.trans (congrArg some (by kernel_rfl))⟩
  f28 := Tryf.func54.trans (congrArg some (by kernel_rfl))
  f29 := Tryf.func55.trans (congrArg some (by kernel_rfl))
  f46 := ⟨Tryf.f56.name, by decide, Tryf.func56.trans (congrArg some (by kernel_rfl))⟩
  f47 := Tryf.func57.trans (congrArg some (by kernel_rfl))
  f48 := Tryf.func58.trans (congrArg some (by kernel_rfl))
  f49 := ⟨Tryf.f59.name, by decide, Tryf.func59.trans (congrArg some (by kernel_rfl))⟩
  f50 := ⟨Tryf.f60.name, by decide, Tryf.func60.trans (congrArg some (by kernel_rfl))⟩
  f57 := ⟨Tryf.f61.name, by decide, Tryf.func61.trans (congrArg some (by kernel_rfl))⟩
  t0 := Tryf.underlying0
  a0 := Tryf.isAgg0
  z0 := Tryf.sizeOf0
  v0 := Tryf.zeroValue0
  t3 := Tryf.underlying3
  a3 := Tryf.isAgg3
  z3 := Tryf.sizeOf3
  v3 := Tryf.zeroValue3
  t4 := Tryf.underlying4
  a4 := Tryf.isAgg4
  z4 := Tryf.sizeOf4
  v4 := Tryf.zeroValue4
  t5 := Tryf.underlying5
  a5 := Tryf.isAgg5
  z5 := Tryf.sizeOf5
  v5 := Tryf.zeroValue5
  t9 := Tryf.underlying9
  a9 := Tryf.isAgg9
  z9 := Tryf.sizeOf9
  v9 := Tryf.zeroValue9
  t22 := Tryf.underlying79
  a22 := Tryf.isAgg79
  z22 := Tryf.sizeOf79
  v22 := Tryf.zeroValue79
  t25 := Tryf.underlying90
  a25 := Tryf.isAgg90
  z25 := Tryf.sizeOf90
  v25 := Tryf.zeroValue90
  t39 := Tryf.underlying97
  a39 := Tryf.isAgg97
  z39 := Tryf.sizeOf97
  v39 := Tryf.zeroValue97
  t45 := Tryf.underlying103
  a45 := Tryf.isAgg103
  z45 := Tryf.sizeOf103
  v45 := Tryf.zeroValue103
  t46 := Tryf.underlying104
  a46 := Tryf.isAgg104
  z46 := Tryf.sizeOf104
  v46 := Tryf.zeroValue104
  t50 := Tryf.underlying73
  a50 := Tryf.isAgg73
  z50 := Tryf.sizeOf73
  v50 := Tryf.zeroValue73
  t53 := Tryf.underlying57
  a53 := Tryf.isAgg57
  z53 := Tryf.sizeOf57
  v53 := Tryf.zeroValue57
  t55 := Tryf.underlying27
  a55 := Tryf.isAgg27
  z55 := Tryf.sizeOf27
  v55 := Tryf.zeroValue27
  t66 := Tryf.underlying114
  a66 := Tryf.isAgg114
  z66 := Tryf.sizeOf114
  v66 := Tryf.zeroValue114
  t70 := Tryf.underlying118
  a70 := Tryf.isAgg118
  z70 := Tryf.sizeOf118
  v70 := Tryf.zeroValue118
  t76 := Tryf.underlying120
  a76 := Tryf.isAgg120
  z76 := Tryf.sizeOf120
  v76 := Tryf.zeroValue120
  t77 := Tryf.underlying121
  a77 := Tryf.isAgg121
  z77 := Tryf.sizeOf121
  v77 := Tryf.zeroValue121 }
end Go.Proofs
