/-
  The walks of spec.Ascii, spec.digits, spec.letter, spec.join, spec.numbered, spec.short, spec.Great.
-/
import Derived.Test.YtdinaphcglmhoaaFmtSmallP
import Derived.Test.YtdinaphcglmhoaaFmtCut
import Derived.Lib.SlBytesRow
import Derived.Laws.IdiomStrings
namespace Go.Proofs.YtdinaphcglmhoaaFmt
open Go.RowKit

set_option maxHeartbeats 400000 in
theorem digits_any (s : ByteArray) (w : World) (hs : s.size ≤ maxLen) :
    Calls Tryf.prog 22 #[.string s] w fun e w' => e = .returned (.bool (digB s.data.toList)) ∧ w = w' := by
  have hm := hs
  unfold maxLen at hs
  by_cases h0 : s.size = 0
  · have h0' := digB_nil (l := s.data.toList) (by simpa using h0)
    have H := Lib.hid h0'
    have h1 : s.size ≤ 0 := by omega
    clear h0 h0'
    go_enter Tryf.func22, Tryf.ntmps22
    go_wp2
    go_ret
    exact ⟨ret_bool H.out.symm, rfl⟩
  · have h1 : 0 < s.size := by omega
    have H := Lib.hid (digB_cons (l := s.data.toList) (by simpa using h1))
    clear h0
    go_enter Tryf.func22, Tryf.ntmps22
    go_wp2_with (go_at_call 29; refine (all_any _ _ _ _ _ hm (Nat.zero_le _)).mono ?_; rintro e w' ⟨rfl, rfl⟩)
    go_ret
    exact ⟨ret_bool H.out.symm, rfl⟩

end Go.Proofs.YtdinaphcglmhoaaFmt
