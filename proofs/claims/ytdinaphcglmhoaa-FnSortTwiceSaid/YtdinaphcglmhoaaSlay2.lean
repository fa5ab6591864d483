/-
  DERIVED: THE SHELF's CONTRACTS AT THIS DUMP, IN PLAIN WORDS (tools/lay-plain.mjs out of 'TryCmpShelf.lean', which tools/lay-shelf.mjs wrote): THE SAME DECLARATIONS UNDER THE SAME NAMES: 'import', 'namespace', 'open', 'def', 'theorem' AND NOTHING ELSE: no command of the shelf's: FOR A HAND-IN. Each laying: the table of numbers ('.._ren') and one theorem, a field a fact of the dump's own or the kernel's comparison; each contract: ONE APPLICATION.
-/
import Derived.Shelf.Small.Strs
import Derived.Test.YtdinaphcglmhoaaProg
namespace Go.Proofs
open Go.Shelf
def Try.strCmp_ren : Go.Shelf.Ren := ⟨fun | 106 => 53 | 213 => 67 | 265 => 85 | n => n, fun | 9 => 9 | 3 => 3 | n => n, fun | n => n⟩
theorem Try.strCmp : Go.Proofs.Lays.n106 Try.prog Try.strCmp_ren := {
  mixed := by kernel_rfl
  f106 := Try.func53.trans (congrArg some (by kernel_rfl))
  f213 := Try.func67.trans (congrArg some (by kernel_rfl))
  f265 := Try.func85.trans (congrArg some (by kernel_rfl))
  t3 := Try.underlying3
  a3 := Try.isAgg3
  z3 := Try.sizeOf3
  v3 := Try.zeroValue3
  t9 := Try.underlying9
  a9 := Try.isAgg9
  z9 := Try.sizeOf9
  v9 := Try.zeroValue9 }
end Go.Proofs
