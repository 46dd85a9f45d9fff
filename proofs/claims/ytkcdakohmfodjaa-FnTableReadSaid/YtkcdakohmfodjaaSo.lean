/-
  FnTableRead: the library's sort of fields, laid at this program: the table of numbers and one theorem, a field a fact of the program's own.
-/
import Derived.Shelf.SlSortCmp.WholeK
import Derived.Test.YtkcdakohmfodjaaProg
namespace Go.Proofs.Ytkcdakohmfodjaa
open Go.Shelf Go.Proofs
def Try.sortF_ren : Go.Shelf.Ren := ⟨fun | 6 => 44 | 15 => 60 | 14 => 59 | 28 => 84 | 29 => 85 | 20 => 76 | 21 => 77 | 22 => 78 | 23 => 79 | 24 => 80 | 25 => 81 | 26 => 82 | 27 => 83 | 46 => 94 | 47 => 95 | 48 => 96 | 49 => 97 | 50 => 98 | 57 => 114 | n => n, fun | 22 => 22 | 24 => 82 | 25 => 112 | 3 => 3 | 39 => 113 | 0 => 0 | 53 => 119 | 55 => 39 | 4 => 4 | 46 => 166 | 45 => 165 | 50 => 170 | 5 => 5 | 9 => 9 | 66 => 202 | 70 => 48 | 76 => 223 | 77 => 224 | n => n, fun | n => n⟩
theorem Try.sortF : Go.Proofs.SlLaysF0.n6 Try.prog Try.sortF_ren := {
  mixed := by kernel_rfl
  f6 := ⟨Try.f44.name, by decide, Try.func44.trans (congrArg some (by kernel_rfl))⟩
  f14 := ⟨Try.f59.name, by decide, Try.func59.trans (congrArg some (by kernel_rfl))⟩
  f15 := Try.func60.trans (congrArg some (by kernel_rfl))
  f20 := ⟨Try.f76.name, by decide, Try.func76.trans (congrArg some (by kernel_rfl))⟩
  f21 := ⟨Try.f77.name, by decide, Try.func77.trans (congrArg some (by kernel_rfl))⟩
  f22 := ⟨Try.f78.name, by decide, Try.func78.trans (congrArg some (by kernel_rfl))⟩
  f23 := ⟨Try.f79.name, by decide, Try.func79.trans (congrArg some (by kernel_rfl))⟩
  f24 := ⟨Try.f80.name, by decide, Try.func80.trans (congrArg some (by kernel_rfl))⟩
  f25 := ⟨Try.f81.name, by decide, Try.func81.trans (congrArg some (by kernel_rfl))⟩
  f26 := ⟨Try.f82.name, by decide, Try.func82.trans (congrArg some (by kernel_rfl))⟩
  f27 := ⟨Try.f83.name, by decide, Try.func83.trans (congrArg some (by kernel_rfl))⟩
  f28 := Try.func84.trans (congrArg some (by kernel_rfl))
  f29 := Try.func85.trans (congrArg some (by kernel_rfl))
  f46 := ⟨Try.f94.name, by decide, Try.func94.trans (congrArg some (by kernel_rfl))⟩
  f47 := Try.func95.trans (congrArg some (by kernel_rfl))
  f48 := Try.func96.trans (congrArg some (by kernel_rfl))
  f49 := ⟨Try.f97.name, by decide, Try.func97.trans (congrArg some (by kernel_rfl))⟩
  f50 := ⟨Try.f98.name, by decide, Try.func98.trans (congrArg some (by kernel_rfl))⟩
  f57 := ⟨Try.f114.name, by decide, Try.func114.trans (congrArg some (by kernel_rfl))⟩
  t0 := Try.underlying0
  a0 := Try.isAgg0
  z0 := Try.sizeOf0
  v0 := Try.zeroValue0
  t3 := Try.underlying3
  a3 := Try.isAgg3
  z3 := Try.sizeOf3
  v3 := Try.zeroValue3
  t4 := Try.underlying4
  a4 := Try.isAgg4
  z4 := Try.sizeOf4
  v4 := Try.zeroValue4
  t5 := Try.underlying5
  a5 := Try.isAgg5
  z5 := Try.sizeOf5
  v5 := Try.zeroValue5
  t9 := Try.underlying9
  a9 := Try.isAgg9
  z9 := Try.sizeOf9
  v9 := Try.zeroValue9
  t22 := Try.underlying22
  a22 := Try.isAgg22
  z22 := Try.sizeOf22
  v22 := Try.zeroValue22
  t25 := Try.underlying112
  a25 := Try.isAgg112
  z25 := Try.sizeOf112
  v25 := Try.zeroValue112
  t39 := Try.underlying113
  a39 := Try.isAgg113
  z39 := Try.sizeOf113
  v39 := Try.zeroValue113
  t45 := Try.underlying165
  a45 := Try.isAgg165
  z45 := Try.sizeOf165
  v45 := Try.zeroValue165
  t46 := Try.underlying166
  a46 := Try.isAgg166
  z46 := Try.sizeOf166
  v46 := Try.zeroValue166
  t50 := Try.underlying170
  a50 := Try.isAgg170
  z50 := Try.sizeOf170
  v50 := Try.zeroValue170
  t53 := Try.underlying119
  a53 := Try.isAgg119
  z53 := Try.sizeOf119
  v53 := Try.zeroValue119
  t55 := Try.underlying39
  a55 := Try.isAgg39
  z55 := Try.sizeOf39
  v55 := Try.zeroValue39
  t66 := Try.underlying202
  a66 := Try.isAgg202
  z66 := Try.sizeOf202
  v66 := Try.zeroValue202
  t70 := Try.underlying48
  a70 := Try.isAgg48
  z70 := Try.sizeOf48
  v70 := Try.zeroValue48
  t76 := Try.underlying223
  a76 := Try.isAgg223
  z76 := Try.sizeOf223
  v76 := Try.zeroValue223
  t77 := Try.underlying224
  a77 := Try.isAgg224
  z77 := Try.sizeOf224
  v77 := Try.zeroValue224 }

end Go.Proofs.Ytkcdakohmfodjaa
