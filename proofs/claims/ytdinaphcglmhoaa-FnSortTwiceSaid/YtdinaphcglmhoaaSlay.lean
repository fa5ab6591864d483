/-
  DERIVED: THE SHELF's CONTRACTS AT THIS DUMP, IN PLAIN WORDS (tools/lay-plain.mjs out of 'TrySortShelf.lean', which tools/lay-shelf.mjs wrote): THE SAME DECLARATIONS UNDER THE SAME NAMES: 'import', 'namespace', 'open', 'def', 'theorem' AND NOTHING ELSE: no command of the shelf's: FOR A HAND-IN. Each laying: the table of numbers ('.._ren') and one theorem, a field a fact of the dump's own or the kernel's comparison; each contract: ONE APPLICATION.
-/
import Derived.Shelf.SlSortCmp.WholeK
import Derived.Shelf.SlSortCmp.NoneTotal
import Derived.Ground.SlsfProg
import Derived.Test.YtdinaphcglmhoaaProg
namespace Go.Proofs
open Go.Shelf
def Try.sortV_ren : Go.Shelf.Ren := ⟨fun | 6 => 51 | 15 => 66 | 14 => 65 | 28 => 83 | 29 => 84 | 20 => 75 | 21 => 76 | 22 => 77 | 23 => 78 | 24 => 79 | 25 => 80 | 26 => 81 | 27 => 82 | 46 => 90 | 47 => 91 | 48 => 92 | 49 => 93 | 50 => 94 | 57 => 95 | n => n, fun | 22 => 61 | 24 => 54 | 25 => 66 | 3 => 3 | 39 => 73 | 0 => 0 | 53 => 83 | 55 => 85 | 4 => 4 | 46 => 76 | 45 => 75 | 50 => 80 | 5 => 5 | 9 => 9 | 66 => 89 | 70 => 93 | 76 => 95 | 77 => 96 | n => n, fun | n => n⟩
theorem Try.sortV : Go.Proofs.SlLaysF0.n6 Try.prog Try.sortV_ren := {
  mixed := by kernel_rfl
  f6 := ⟨Try.f51.name, by decide, Try.func51.trans (congrArg some (by kernel_rfl))⟩
  f14 := ⟨Try.f65.name, by decide, Try.func65.trans (congrArg some (by kernel_rfl))⟩
  f15 := Try.func66.trans (congrArg some (by kernel_rfl))
  f20 := ⟨Try.f75.name, by decide, Try.func75.trans (congrArg some (by kernel_rfl))⟩
  f21 := ⟨Try.f76.name, by decide, Try.func76.trans (congrArg some (by kernel_rfl))⟩
  f22 := ⟨Try.f77.name, by decide, Try.func77.trans (congrArg some (by kernel_rfl))⟩
  f23 := ⟨Try.f78.name, by decide, Try.func78.trans (congrArg some (by kernel_rfl))⟩
  f24 := ⟨Try.f79.name, by decide, Try.func79.trans (congrArg some (by kernel_rfl))⟩
  f25 := ⟨Try.f80.name, by decide, Try.func80.trans (congrArg some (by kernel_rfl))⟩
  f26 := ⟨Try.f81.name, by decide, Try.func81.trans (congrArg some (by kernel_rfl))⟩
  f27 := ⟨Try.f82.name, by decide, Try.func82.trans (congrArg some (by kernel_rfl))⟩
  f28 := Try.func83.trans (congrArg some (by kernel_rfl))
  f29 := Try.func84.trans (congrArg some (by kernel_rfl))
  f46 := ⟨Try.f90.name, by decide, Try.func90.trans (congrArg some (by kernel_rfl))⟩
  f47 := Try.func91.trans (congrArg some (by kernel_rfl))
  f48 := Try.func92.trans (congrArg some (by kernel_rfl))
  f49 := ⟨Try.f93.name, by decide, Try.func93.trans (congrArg some (by kernel_rfl))⟩
  f50 := ⟨Try.f94.name, by decide, Try.func94.trans (congrArg some (by kernel_rfl))⟩
  f57 := ⟨Try.f95.name, by decide, Try.func95.trans (congrArg some (by kernel_rfl))⟩
  t0 := Try.underlying0
  a0 := Try.isAgg0
  z0 := Try.sizeOf0
  v0 := Try.zeroValue0
  t3 := Try.underlying3
  a3 := Try.isAgg3
  z3 := Try.sizeOf3
  v3 := Try.zeroValue3
  t4 := Try.underlying4
  a4 := Try.isAgg4
  z4 := Try.sizeOf4
  v4 := Try.zeroValue4
  t5 := Try.underlying5
  a5 := Try.isAgg5
  z5 := Try.sizeOf5
  v5 := Try.zeroValue5
  t9 := Try.underlying9
  a9 := Try.isAgg9
  z9 := Try.sizeOf9
  v9 := Try.zeroValue9
  t22 := Try.underlying61
  a22 := Try.isAgg61
  z22 := Try.sizeOf61
  v22 := Try.zeroValue61
  t25 := Try.underlying66
  a25 := Try.isAgg66
  z25 := Try.sizeOf66
  v25 := Try.zeroValue66
  t39 := Try.underlying73
  a39 := Try.isAgg73
  z39 := Try.sizeOf73
  v39 := Try.zeroValue73
  t45 := Try.underlying75
  a45 := Try.isAgg75
  z45 := Try.sizeOf75
  v45 := Try.zeroValue75
  t46 := Try.underlying76
  a46 := Try.isAgg76
  z46 := Try.sizeOf76
  v46 := Try.zeroValue76
  t50 := Try.underlying80
  a50 := Try.isAgg80
  z50 := Try.sizeOf80
  v50 := Try.zeroValue80
  t53 := Try.underlying83
  a53 := Try.isAgg83
  z53 := Try.sizeOf83
  v53 := Try.zeroValue83
  t55 := Try.underlying85
  a55 := Try.isAgg85
  z55 := Try.sizeOf85
  v55 := Try.zeroValue85
  t66 := Try.underlying89
  a66 := Try.isAgg89
  z66 := Try.sizeOf89
  v66 := Try.zeroValue89
  t70 := Try.underlying93
  a70 := Try.isAgg93
  z70 := Try.sizeOf93
  v70 := Try.zeroValue93
  t76 := Try.underlying95
  a76 := Try.isAgg95
  z76 := Try.sizeOf95
  v76 := Try.zeroValue95
  t77 := Try.underlying96
  a77 := Try.isAgg96
  z77 := Try.sizeOf96
  v77 := Try.zeroValue96 }
end Go.Proofs
