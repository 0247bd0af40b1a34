/-
  The library's contract of slices.SortFunc at this program: the table of numbers, and that the bodies and types fit.
-/
import Derived.Test.Qxb6604187aRows
import Derived.Shelf.SlSortCmp.WholeK
namespace Go.Proofs
open Go.Shelf
def Try.sortMark_ren : Go.Shelf.Ren := ⟨fun | 6 => 34 | 15 => 38 | 14 => 37 | 28 => 47 | 29 => 48 | 20 => 39 | 21 => 40 | 22 => 41 | 23 => 42 | 24 => 43 | 25 => 44 | 26 => 45 | 27 => 46 | 46 => 49 | 47 => 50 | 48 => 51 | 49 => 52 | 50 => 53 | 57 => 54 | n => n, fun | 22 => 72 | 24 => 75 | 25 => 89 | 3 => 3 | 39 => 94 | 0 => 0 | 53 => 104 | 55 => 23 | 4 => 4 | 46 => 97 | 45 => 96 | 50 => 101 | 5 => 5 | 9 => 9 | 66 => 106 | 70 => 110 | 76 => 112 | 77 => 113 | n => n, fun | n => n⟩
theorem Try.sortMark : Go.Proofs.SlLaysF0.n6 Try.prog Try.sortMark_ren := {
  mixed := by kernel_rfl
  f6 := ⟨Try.f34.name, by decide, Try.func34.trans (congrArg some (by kernel_rfl))⟩
  f14 := ⟨Try.f37.name, by decide, Try.func37.trans (congrArg some (by kernel_rfl))⟩
  f15 := Try.func38.trans (congrArg some (by kernel_rfl))
  f20 := ⟨Try.f39.name, by decide, Try.func39.trans (congrArg some (by kernel_rfl))⟩
  f21 := ⟨Try.f40.name, by decide, Try.func40.trans (congrArg some (by kernel_rfl))⟩
  f22 := ⟨Try.f41.name, by decide, Try.func41.trans (congrArg some (by kernel_rfl))⟩
  f23 := ⟨Try.f42.name, by decide, Try.func42.trans (congrArg some (by kernel_rfl))⟩
  f24 := ⟨Try.f43.name, by decide, Try.func43.trans (congrArg some (by kernel_rfl))⟩
  f25 := ⟨Try.f44.name, by decide, Try.func44.trans (congrArg some (by kernel_rfl))⟩
  f26 := ⟨Try.f45.name, by decide, Try.func45.trans (congrArg some (by kernel_rfl))⟩
  f27 := ⟨Try.f46.name, by decide, Try.func46.trans (congrArg some (by kernel_rfl))⟩
  f28 := Try.func47.trans (congrArg some (by kernel_rfl))
  f29 := Try.func48.trans (congrArg some (by kernel_rfl))
  f46 := ⟨Try.f49.name, by decide, Try.func49.trans (congrArg some (by kernel_rfl))⟩
  f47 := Try.func50.trans (congrArg some (by kernel_rfl))
  f48 := Try.func51.trans (congrArg some (by kernel_rfl))
  f49 := ⟨Try.f52.name, by decide, Try.func52.trans (congrArg some (by kernel_rfl))⟩
  f50 := ⟨Try.f53.name, by decide, Try.func53.trans (congrArg some (by kernel_rfl))⟩
  f57 := ⟨Try.f54.name, by decide, Try.func54.trans (congrArg some (by kernel_rfl))⟩
  t0 := Try.underlying0
  a0 := Try.isAgg0
  z0 := Try.sizeOf0
  v0 := Try.zeroValue0
  t3 := Try.underlying3
  a3 := Try.isAgg3
  z3 := Try.sizeOf3
  v3 := Try.zeroValue3
  t4 := Try.underlying4
  a4 := Try.isAgg4
  z4 := Try.sizeOf4
  v4 := Try.zeroValue4
  t5 := Try.underlying5
  a5 := Try.isAgg5
  z5 := Try.sizeOf5
  v5 := Try.zeroValue5
  t9 := Try.underlying9
  a9 := Try.isAgg9
  z9 := Try.sizeOf9
  v9 := Try.zeroValue9
  t22 := Try.underlying72
  a22 := Try.isAgg72
  z22 := Try.sizeOf72
  v22 := Try.zeroValue72
  t25 := Try.underlying89
  a25 := Try.isAgg89
  z25 := Try.sizeOf89
  v25 := Try.zeroValue89
  t39 := Try.underlying94
  a39 := Try.isAgg94
  z39 := Try.sizeOf94
  v39 := Try.zeroValue94
  t45 := Try.underlying96
  a45 := Try.isAgg96
  z45 := Try.sizeOf96
  v45 := Try.zeroValue96
  t46 := Try.underlying97
  a46 := Try.isAgg97
  z46 := Try.sizeOf97
  v46 := Try.zeroValue97
  t50 := Try.underlying101
  a50 := Try.isAgg101
  z50 := Try.sizeOf101
  v50 := Try.zeroValue101
  t53 := Try.underlying104
  a53 := Try.isAgg104
  z53 := Try.sizeOf104
  v53 := Try.zeroValue104
  t55 := Try.underlying23
  a55 := Try.isAgg23
  z55 := Try.sizeOf23
  v55 := Try.zeroValue23
  t66 := Try.underlying106
  a66 := Try.isAgg106
  z66 := Try.sizeOf106
  v66 := Try.zeroValue106
  t70 := Try.underlying110
  a70 := Try.isAgg110
  z70 := Try.sizeOf110
  v70 := Try.zeroValue110
  t76 := Try.underlying112
  a76 := Try.isAgg112
  z76 := Try.sizeOf112
  v76 := Try.zeroValue112
  t77 := Try.underlying113
  a77 := Try.isAgg113
  z77 := Try.sizeOf113
  v77 := Try.zeroValue113 }
end Go.Proofs
