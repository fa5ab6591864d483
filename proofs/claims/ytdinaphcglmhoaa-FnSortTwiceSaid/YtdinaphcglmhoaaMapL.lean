/-
  Maps keyed by a version: the key's law.
-/
import Derived.Test.YtdinaphcglmhoaaPv
import Derived.Test.YtdinaphcglmhoaaProg
import Derived.Maps.Own
import Derived.DeepKeys4
import Derived.MapViews
import Derived.Deep.SlicePairs
namespace Go.Proofs.Ytdinaphcglmhoaa
open Go.RowKit Go.ChangeShapes Go.WideShapes
set_option linter.unusedVariables false

theorem laidOutK : laidOutB Try.prog = true := by kernel_rfl
theorem rowK : (24 : TypeId) < Try.prog.types.size := of_decide_eq_true (by kernel_rfl)
theorem wideK : (match Try.prog.underlying 24 with | some (.array _ _) | some (.struct _) => true | _ => false) = true := by rw [Try.underlying24]
theorem lawK : Maps.Keyed Try.prog 24 := Maps.Keyed.of_law (deep_law_laid laidOutK (m := 2) (by omega) rowK (by kernel_rfl) wideK)
theorem cellsK : Try.prog.cellsOf 24 = 2 := by kernel_rfl
theorem cellsS : Try.prog.cellsOf 9 = 1 := by kernel_rfl
theorem keyT : Try.prog.keyType 24 = true := by kernel_rfl
def keyL (p v : ByteArray) : Lit := .string (keyBytes [.string p.data.toList, .string v.data.toList])
theorem litsS (d : Nat) (s : ByteArray) (hs : s.size ≤ maxLen) : Try.prog.keyLits (d + 1) 9 [.string s] = some [.string s.data.toList] := by
  unfold Program.keyLits
  rw [Try.underlying9]
  simp [hs]
theorem keyV (p v : ByteArray) (hp : p.size ≤ maxLen) (hv : v.size ≤ maxLen) : keyOf Try.prog 24 (.agg #[.string p, .string v]) = some (keyL p v) := by
  have hf : (Value.agg #[.string p, .string v]).formed Try.prog 24 = true := by simp [Value.formed, Try.underlying24, cellsK]
  have hl : Try.prog.keyLits (Try.prog.types.size + 1) 24 [.string p, .string v] = some [.string p.data.toList, .string v.data.toList] := by
    obtain ⟨d, hd⟩ : ∃ d, Try.prog.types.size = d + 1 := ⟨Try.prog.types.size - 1, (Nat.succ_pred_eq_of_pos (Nat.lt_of_le_of_lt (Nat.zero_le _) rowK)).symm⟩
    rw [hd]
    unfold Program.keyLits
    rw [Try.underlying24]
    simp [cellsK, cellsS, litsS d p hp, litsS d v hv]
  unfold keyOf
  rw [Try.underlying24]
  show (if (Try.prog.keyType 24 && (Value.agg #[.string p, .string v]).formed Try.prog 24) = true then (Try.prog.keyLits (Try.prog.types.size + 1) 24 [.string p, .string v]).map fun ls => Lit.string (keyBytes ls) else none) = _
  rw [keyT, hf, hl]; rfl
end Go.Proofs.Ytdinaphcglmhoaa
