/-
  The walk of zzIndex at a part of one byte.
-/
import Derived.Test.YtdinaphcglmhoaaSmallP
import Derived.Test.YtdinaphcglmhoaaIn
import Derived.Deep.QuietTactic
import Derived.BigQuiet
namespace Go.Proofs.Ytdinaphcglmhoaa
open Go.RowKit
set_option linter.unusedVariables false

def IdxR (l : Bs) (b : UInt8) (n : Int) : Prop := (n = -1 ∧ b ∉ l) ∨ (∃ k : Nat, n = k ∧ k < l.length ∧ l[k]? = some b ∧ b ∉ l.take k)
def IdxE (l : Bs) (b : UInt8) (w : World) (e : Ending) (w' : World) : Prop := ∃ n : Int, e = .returned (.int .i64 n) ∧ IdxR l b n ∧ w = w'

theorem ext_one (s : ByteArray) (k : Nat) (h : k < s.size) : (s.extract k (k + 1)).data.toList = [s[k]] := by
  rw [Lib.extract_data, List.take_drop, show k + (k + 1 - k) = k + 1 from by omega, take_snoc s k h, List.drop_append_of_le_length (by simp; omega)]
  rw [List.drop_of_length_le (by simp; omega)]; rfl
theorem ext_test (s sub : ByteArray) (b : UInt8) (hb : sub.data.toList = [b]) (k : Nat) (h : k < s.size) : ((s.extract k (k + 1)).toList == sub.toList) = (s[k] == b) := by
  rw [Lib.toList_data, Lib.toList_data, ext_one s k h, hb, Bool.eq_iff_iff]; simp

set_option maxHeartbeats 1000000 in
theorem zzIndex_any (s sub : ByteArray) (b : UInt8) (hb : sub.data.toList = [b]) (w : World) (hs : s.size ≤ 4294967296) :
    Calls Try.prog 54 #[.string s, .string sub] w (IdxE s.data.toList b w) := by
  have hz : sub.size = 1 := by rw [← size_len, hb]; rfl
  have HB := Lib.hid hb
  have HT := Lib.hid (ext_test s sub b hb)
  clear hb
  go_enter Try.func54, Try.ntmps54
  go_wp2
  go_loop [5] (fun i => ∃ k : Nat, k ≤ s.size ∧ i = .int .i64 k ∧ Hid (b ∉ s.data.toList.take k)) (fun i => s.size - (intOf i).toNat)
  case atStart => exact ⟨0, Nat.zero_le _, rfl, Lib.hid (by simp)⟩
  case round =>
    obtain ⟨k, hk, rfl, hn⟩ := hrel
    by_cases hlt : k < s.size
    · have ht := HT.out k hlt
      by_cases hc : s[k] = b
      · have ht1 : ((s.extract k (k + 1)).toList == sub.toList) = true := by rw [ht]; simpa using hc
        have F : Hid (IdxR s.data.toList b k) := Lib.hid (.inr ⟨k, rfl, by rw [size_len]; exact hlt, by rw [byte_at' s k hlt, hc], hn.out⟩)
        clear ht hc
        go_wp2
        go_ret
        exact ⟨_, rfl, F.out, rfl⟩
      · have ht1 : ((s.extract k (k + 1)).toList == sub.toList) = false := by rw [ht]; simpa using hc
        have F : Hid (b ∉ s.data.toList.take (k + 1)) := Lib.hid (by
          rw [take_snoc s k hlt, List.mem_append, not_or]
          exact ⟨hn.out, by simpa using fun e => hc e.symm⟩)
        clear ht hc
        go_wp2
        go_round
        case rel => exact ⟨k + 1, by omega, by go_num, F⟩
        case measure => simp [intOf]; omega
    · have F : Hid (IdxR s.data.toList b (-1)) := Lib.hid (.inl ⟨rfl, by rw [← take_all s k (by omega)]; exact hn.out⟩)
      go_wp2
      go_ret
      exact ⟨_, rfl, F.out, rfl⟩

end Go.Proofs.Ytdinaphcglmhoaa
