/-
  The walks of strings.HasPrefix, strings.HasSuffix (with what they call).
-/
import Derived.Test.YtdinaphcglmhoaaFmtSmallP
import Derived.Test.YtdinaphcglmhoaaFmtProg
import Derived.WalkSpells
import Derived.WalkLawsBesides
import Derived.Lib.Hide
namespace Go.Proofs.YtdinaphcglmhoaaFmt
open Go.RowKit
set_option linter.unusedVariables false

def preB (p l : Bs) : Bool := decide (p.length ≤ l.length) && (l.take p.length == p)
def sufB (p l : Bs) : Bool := decide (p.length ≤ l.length) && (l.drop (l.length - p.length) == p)

set_option maxHeartbeats 1000000 in
theorem hasPrefix_any (s p : ByteArray) (w : World) (_hs : s.size ≤ maxLen) (hp : p.size ≤ maxLen) :
    Calls Tryf.prog 14 #[.string s, .string p] w fun e w' => e = .returned (.bool (preB p.data.toList s.data.toList)) ∧ w = w' := by
  unfold maxLen at hp
  by_cases h : p.size ≤ s.size
  · have E : Hid (preB p.data.toList s.data.toList = ((s.extract 0 p.size).toList == p.toList)) := Lib.hid (by
      unfold preB
      rw [Lib.toList_data, Lib.toList_data, extract_take, size_len, size_len, decide_eq_true h, Bool.true_and])
    go_enter Tryf.func14, Tryf.ntmps14
    go_wp2
    go_ret
    exact ⟨ret_bool E.out.symm, rfl⟩
  · have h' : s.size < p.size := by omega
    have E : Hid (preB p.data.toList s.data.toList = false) := Lib.hid (by
      unfold preB
      rw [size_len, size_len, decide_eq_false h, Bool.false_and])
    clear h
    go_enter Tryf.func14, Tryf.ntmps14
    go_wp2
    go_ret
    exact ⟨ret_bool E.out.symm, rfl⟩

set_option maxHeartbeats 1000000 in
theorem hasSuffix_any (s p : ByteArray) (w : World) (hs : s.size ≤ maxLen) (_hp : p.size ≤ maxLen) :
    Calls Tryf.prog 15 #[.string s, .string p] w fun e w' => e = .returned (.bool (sufB p.data.toList s.data.toList)) ∧ w = w' := by
  unfold maxLen at hs
  by_cases h : p.size ≤ s.size
  · have E : Hid (sufB p.data.toList s.data.toList = ((s.extract (s.size - p.size) s.size).toList == p.toList)) := Lib.hid (by
      unfold sufB
      rw [Lib.toList_data, Lib.toList_data, extract_drop, size_len, size_len, decide_eq_true h, Bool.true_and])
    go_enter Tryf.func15, Tryf.ntmps15
    go_wp2
    go_ret
    exact ⟨ret_bool E.out.symm, rfl⟩
  · have h' : s.size < p.size := by omega
    have E : Hid (sufB p.data.toList s.data.toList = false) := Lib.hid (by
      unfold sufB
      rw [size_len, size_len, decide_eq_false h, Bool.false_and])
    clear h
    go_enter Tryf.func15, Tryf.ntmps15
    go_wp2
    go_ret
    exact ⟨ret_bool E.out.symm, rfl⟩
end Go.Proofs.YtdinaphcglmhoaaFmt
