/-
  laws.long.
-/
import Derived.Test.YtdinaphcglmhoaaSmallP
import Derived.Test.YtdinaphcglmhoaaSmall
import Derived.Test.YtdinaphcglmhoaaFrame
namespace Go.Proofs.Ytdinaphcglmhoaa
open Go.RowKit

theorem long_any (s : ByteArray) (w : World) (hs : s.size ≤ maxLen) :
    Calls Try.prog 13 #[.string s] w fun e w' => e = .returned (.bool (decide (500 < s.size))) ∧ w = w' := by
  unfold maxLen at hs
  have E : Hid (decide (500 < s.size) = decide (500 < (s.size : Int))) := Lib.hid (by rw [Bool.eq_iff_iff]; simp; omega)
  go_enter Try.func13, Try.ntmps13
  go_wp2
  go_ret
  exact ⟨ret_bool E.out.symm, rfl⟩

end Go.Proofs.Ytdinaphcglmhoaa
