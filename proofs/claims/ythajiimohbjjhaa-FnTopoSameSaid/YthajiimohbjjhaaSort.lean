/-
  The laying of the library sort and of cmp.Compare at this translation, written by the kit (lay-plain).
-/
import Derived.Shelf.SlSortCmp.NoneTotal
import Derived.Shelf.SlicesG.Cmp
import Derived.Test.YthajiimohbjjhaaProg
namespace Go.Proofs
open Go.Shelf
def Try.sortL_ren : Go.Shelf.Ren := ⟨fun | 6 => 51 | 15 => 56 | 14 => 55 | 28 => 66 | 29 => 67 | 20 => 58 | 21 => 59 | 22 => 60 | 23 => 61 | 24 => 62 | 25 => 63 | 26 => 64 | 27 => 65 | 46 => 68 | 47 => 69 | 48 => 70 | 49 => 71 | 50 => 72 | 57 => 73 | n => n, fun | 22 => 32 | 24 => 9 | 25 => 74 | 3 => 3 | 39 => 79 | 0 => 0 | 53 => 89 | 55 => 91 | 4 => 4 | 46 => 83 | 45 => 82 | 50 => 76 | 5 => 5 | 9 => 9 | 66 => 92 | 70 => 96 | 76 => 98 | 77 => 99 | n => n, fun | n => n⟩
theorem Try.sortL : Go.Proofs.SlLaysF.n6 Try.prog Try.sortL_ren := {
  mixed := by kernel_rfl
  f6 := ⟨Try.f51.name, by decide, Try.func51.trans (congrArg some (by kernel_rfl))⟩
  f14 := ⟨Try.f55.name, by decide, Try.func55.trans (congrArg some (by kernel_rfl))⟩
  f15 := Try.func56.trans (congrArg some (by kernel_rfl))
  f20 := ⟨Try.f58.name, by decide, Try.func58.trans (congrArg some (by kernel_rfl))⟩
  f21 := ⟨Try.f59.name, by decide, Try.func59.trans (congrArg some (by kernel_rfl))⟩
  f22 := ⟨Try.f60.name, by decide, Try.func60.trans (congrArg some (by kernel_rfl))⟩
  f23 := ⟨Try.f61.name, by decide, Try.func61.trans (congrArg some (by kernel_rfl))⟩
  f24 := ⟨Try.f62.name, by decide, Try.func62.trans (congrArg some (by kernel_rfl))⟩
  f25 := ⟨Try.f63.name, by decide, Try.func63.trans (congrArg some (by kernel_rfl))⟩
  f26 := ⟨Try.f64.name, by decide, Try.func64.trans (congrArg some (by kernel_rfl))⟩
  f27 := ⟨Try.f65.name, by decide, Try.func65.trans (congrArg some (by kernel_rfl))⟩
  f28 := Try.func66.trans (congrArg some (by kernel_rfl))
  f29 := Try.func67.trans (congrArg some (by kernel_rfl))
  f46 := ⟨Try.f68.name, by decide, Try.func68.trans (congrArg some (by kernel_rfl))⟩
  f47 := Try.func69.trans (congrArg some (by kernel_rfl))
  f48 := Try.func70.trans (congrArg some (by kernel_rfl))
  f49 := ⟨Try.f71.name, by decide, Try.func71.trans (congrArg some (by kernel_rfl))⟩
  f50 := ⟨Try.f72.name, by decide, Try.func72.trans (congrArg some (by kernel_rfl))⟩
  f57 := ⟨Try.f73.name, by decide, Try.func73.trans (congrArg some (by kernel_rfl))⟩
  t0 := Try.underlying0
  a0 := Try.isAgg0
  z0 := Try.sizeOf0
  v0 := Try.zeroValue0
  t3 := Try.underlying3
  a3 := Try.isAgg3
  z3 := Try.sizeOf3
  v3 := Try.zeroValue3
  t4 := Try.underlying4
  a4 := Try.isAgg4
  z4 := Try.sizeOf4
  v4 := Try.zeroValue4
  t5 := Try.underlying5
  a5 := Try.isAgg5
  z5 := Try.sizeOf5
  v5 := Try.zeroValue5
  t9 := Try.underlying9
  a9 := Try.isAgg9
  z9 := Try.sizeOf9
  v9 := Try.zeroValue9
  t22 := Try.underlying32
  a22 := Try.isAgg32
  z22 := Try.sizeOf32
  v22 := Try.zeroValue32
  a24 := Try.isAgg9
  z24 := Try.sizeOf9
  t25 := Try.underlying74
  a25 := Try.isAgg74
  z25 := Try.sizeOf74
  v25 := Try.zeroValue74
  t39 := Try.underlying79
  a39 := Try.isAgg79
  z39 := Try.sizeOf79
  v39 := Try.zeroValue79
  t45 := Try.underlying82
  a45 := Try.isAgg82
  z45 := Try.sizeOf82
  v45 := Try.zeroValue82
  t46 := Try.underlying83
  a46 := Try.isAgg83
  z46 := Try.sizeOf83
  v46 := Try.zeroValue83
  t50 := Try.underlying76
  a50 := Try.isAgg76
  z50 := Try.sizeOf76
  v50 := Try.zeroValue76
  t53 := Try.underlying89
  a53 := Try.isAgg89
  z53 := Try.sizeOf89
  v53 := Try.zeroValue89
  t55 := Try.underlying91
  a55 := Try.isAgg91
  z55 := Try.sizeOf91
  v55 := Try.zeroValue91
  t66 := Try.underlying92
  a66 := Try.isAgg92
  z66 := Try.sizeOf92
  v66 := Try.zeroValue92
  t70 := Try.underlying96
  a70 := Try.isAgg96
  z70 := Try.sizeOf96
  v70 := Try.zeroValue96
  t76 := Try.underlying98
  a76 := Try.isAgg98
  z76 := Try.sizeOf98
  v76 := Try.zeroValue98
  t77 := Try.underlying99
  a77 := Try.isAgg99
  z77 := Try.sizeOf99
  v77 := Try.zeroValue99 }
def Try.cmpL_ren : Go.Shelf.Ren := ⟨fun | 5 => 53 | 7 => 57 | n => n, fun | 22 => 3 | 3 => 3 | 4 => 4 | n => n, fun | n => n⟩
theorem Try.cmpL : Go.Proofs.SlLaysC2.n5 Try.prog Try.cmpL_ren := {
  mixed := by kernel_rfl
  f5 := ⟨Try.f53.name, by decide, Try.func53.trans (congrArg some (by kernel_rfl))⟩
  f7 := ⟨Try.f57.name, by decide, Try.func57.trans (congrArg some (by kernel_rfl))⟩
  t3 := Try.underlying3
  a3 := Try.isAgg3
  z3 := Try.sizeOf3
  v3 := Try.zeroValue3
  t4 := Try.underlying4
  a4 := Try.isAgg4
  z4 := Try.sizeOf4
  v4 := Try.zeroValue4
  t22 := Try.underlying3
  a22 := Try.isAgg3
  z22 := Try.sizeOf3
  v22 := Try.zeroValue3 }
end Go.Proofs
