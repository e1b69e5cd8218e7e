/-
  Two contracts of the shelf laid at this program, in plain words (written by the kit's tool lay-plain): slices.SortFunc at the key type, strings.Compare.
-/
import Derived.Shelf.SlSortCmp.WholeK
import Derived.Shelf.Small.Strs
import Derived.Test.Qxb6608833aChecked
set_option maxRecDepth 1000000
namespace Go.Proofs
open Go.Shelf
def Try.sortKey_ren : Go.Shelf.Ren := ⟨fun | 6 => 62 | 15 => 77 | 14 => 76 | 28 => 92 | 29 => 93 | 20 => 84 | 21 => 85 | 22 => 86 | 23 => 87 | 24 => 88 | 25 => 89 | 26 => 90 | 27 => 91 | 46 => 102 | 47 => 103 | 48 => 104 | 49 => 105 | 50 => 106 | 57 => 110 | n => n, fun | 22 => 40 | 24 => 103 | 25 => 123 | 3 => 3 | 39 => 70 | 0 => 0 | 53 => 80 | 55 => 52 | 4 => 4 | 46 => 160 | 45 => 159 | 50 => 148 | 5 => 5 | 9 => 9 | 66 => 170 | 70 => 174 | 76 => 176 | 77 => 177 | n => n, fun | n => n⟩
theorem Try.sortKey : Go.Proofs.SlLaysF0.n6 Try.prog Try.sortKey_ren := {
  mixed := by kernel_rfl
  f6 := ⟨Try.f62.name, by decide, Try.func62.trans (congrArg some (by kernel_rfl))⟩
  f14 := ⟨Try.f76.name, by decide, Try.func76.trans (congrArg some (by kernel_rfl))⟩
  f15 := Try.func77.trans (congrArg some (by kernel_rfl))
  f20 := ⟨Try.f84.name, by decide, Try.func84.trans (congrArg some (by kernel_rfl))⟩
  f21 := ⟨Try.f85.name, by decide, Try.func85.trans (congrArg some (by kernel_rfl))⟩
  f22 := ⟨Try.f86.name, by decide, Try.func86.trans (congrArg some (by kernel_rfl))⟩
  f23 := ⟨Try.f87.name, by decide, Try.func87.trans (congrArg some (by kernel_rfl))⟩
  f24 := ⟨Try.f88.name, by decide, Try.func88.trans (congrArg some (by kernel_rfl))⟩
  f25 := ⟨Try.f89.name, by decide, Try.func89.trans (congrArg some (by kernel_rfl))⟩
  f26 := ⟨Try.f90.name, by decide, Try.func90.trans (congrArg some (by kernel_rfl))⟩
  f27 := ⟨Try.f91.name, by decide, Try.func91.trans (congrArg some (by kernel_rfl))⟩
  f28 := Try.func92.trans (congrArg some (by kernel_rfl))
  f29 := Try.func93.trans (congrArg some (by kernel_rfl))
  f46 := ⟨Try.f102.name, by decide, Try.func102.trans (congrArg some (by kernel_rfl))⟩
  f47 := Try.func103.trans (congrArg some (by kernel_rfl))
  f48 := Try.func104.trans (congrArg some (by kernel_rfl))
  f49 := ⟨Try.f105.name, by decide, Try.func105.trans (congrArg some (by kernel_rfl))⟩
  f50 := ⟨Try.f106.name, by decide, Try.func106.trans (congrArg some (by kernel_rfl))⟩
  f57 := ⟨Try.f110.name, by decide, Try.func110.trans (congrArg some (by kernel_rfl))⟩
  t0 := Try.underlying0
  a0 := Try.isAgg0
  z0 := Try.sizeOf0
  v0 := Try.zeroValue0
  t3 := Try.underlying3
  a3 := Try.isAgg3
  z3 := Try.sizeOf3
  v3 := Try.zeroValue3
  t4 := Try.underlying4
  a4 := Try.isAgg4
  z4 := Try.sizeOf4
  v4 := Try.zeroValue4
  t5 := Try.underlying5
  a5 := Try.isAgg5
  z5 := Try.sizeOf5
  v5 := Try.zeroValue5
  t9 := Try.underlying9
  a9 := Try.isAgg9
  z9 := Try.sizeOf9
  v9 := Try.zeroValue9
  t22 := Try.underlying40
  a22 := Try.isAgg40
  z22 := Try.sizeOf40
  v22 := Try.zeroValue40
  t25 := Try.underlying123
  a25 := Try.isAgg123
  z25 := Try.sizeOf123
  v25 := Try.zeroValue123
  t39 := Try.underlying70
  a39 := Try.isAgg70
  z39 := Try.sizeOf70
  v39 := Try.zeroValue70
  t45 := Try.underlying159
  a45 := Try.isAgg159
  z45 := Try.sizeOf159
  v45 := Try.zeroValue159
  t46 := Try.underlying160
  a46 := Try.isAgg160
  z46 := Try.sizeOf160
  v46 := Try.zeroValue160
  t50 := Try.underlying148
  a50 := Try.isAgg148
  z50 := Try.sizeOf148
  v50 := Try.zeroValue148
  t53 := Try.underlying80
  a53 := Try.isAgg80
  z53 := Try.sizeOf80
  v53 := Try.zeroValue80
  t55 := Try.underlying52
  a55 := Try.isAgg52
  z55 := Try.sizeOf52
  v55 := Try.zeroValue52
  t66 := Try.underlying170
  a66 := Try.isAgg170
  z66 := Try.sizeOf170
  v66 := Try.zeroValue170
  t70 := Try.underlying174
  a70 := Try.isAgg174
  z70 := Try.sizeOf174
  v70 := Try.zeroValue174
  t76 := Try.underlying176
  a76 := Try.isAgg176
  z76 := Try.sizeOf176
  v76 := Try.zeroValue176
  t77 := Try.underlying177
  a77 := Try.isAgg177
  z77 := Try.sizeOf177
  v77 := Try.zeroValue177 }
def Try.strCompare_ren : Go.Shelf.Ren := ⟨fun | 106 => 78 | 213 => 94 | 265 => 107 | n => n, fun | 9 => 9 | 3 => 3 | n => n, fun | n => n⟩
theorem Try.strCompare : Go.Proofs.Lays.n106 Try.prog Try.strCompare_ren := {
  mixed := by kernel_rfl
  f106 := Try.func78.trans (congrArg some (by kernel_rfl))
  f213 := Try.func94.trans (congrArg some (by kernel_rfl))
  f265 := Try.func107.trans (congrArg some (by kernel_rfl))
  t3 := Try.underlying3
  a3 := Try.isAgg3
  z3 := Try.sizeOf3
  v3 := Try.zeroValue3
  t9 := Try.underlying9
  a9 := Try.isAgg9
  z9 := Try.sizeOf9
  v9 := Try.zeroValue9 }
end Go.Proofs
