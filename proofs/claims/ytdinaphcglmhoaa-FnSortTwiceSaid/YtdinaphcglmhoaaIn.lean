/-
  The walks of spec.In, spec.All, spec.Ascii, spec.digits, spec.letter, spec.join.
-/
import Derived.Test.YtdinaphcglmhoaaProg
import Derived.Test.YtdinaphcglmhoaaPlain
import Derived.Test.YtdinaphcglmhoaaFrame
import Derived.WalkKit
import Derived.WalkSpells
import Derived.WalkLawsBesides
import Derived.Lib.Hide
namespace Go.Proofs.Ytdinaphcglmhoaa
open Go.RowKit


set_option maxHeartbeats 400000 in
theorem in_any (s : ByteArray) (b : UInt8) (w : World) (hs : s.size ≤ maxLen) :
    Calls Try.prog 26 #[.string s, .int .u8 b.toNat] w fun e w' => e = .returned (.bool (inB s.data.toList b)) ∧ w = w' := by
  unfold maxLen at hs
  go_enter Try.func26, Try.ntmps26
  go_wp2
  go_loop [8] (fun i => ∃ k : Nat, k ≤ s.size ∧ i = .int .i64 k ∧ Hid (b ∉ s.data.toList.take k)) (fun i => s.size - (intOf i).toNat)
  case atStart => exact ⟨0, Nat.zero_le _, rfl, Lib.hid (by simp)⟩
  case round =>
    obtain ⟨k, hk, rfl, hb⟩ := hrel
    by_cases hlt : k < s.size
    · go_wp2
      · go_ret
        have he := byte_eq ‹_›
        exact ⟨ret_bool (inB_true (by rw [← he]; exact get_mem s k hlt)).symm, rfl⟩
      · go_round
        case rel =>
          have he := byte_ne ‹_›
          exact ⟨k + 1, by omega, by go_num, Lib.hid (by rw [take_snoc s k hlt]; simp; exact ⟨by simpa using hb.out, Ne.symm he⟩)⟩
        case measure => simp [intOf]; omega
    · go_wp2
      go_ret
      exact ⟨ret_bool (inB_false (by rw [← take_all s k (by omega)]; exact hb.out)).symm, rfl⟩

set_option maxHeartbeats 2000000 in
theorem all_any (s : ByteArray) (sm gr : Bool) (oth : ByteArray) (w : World) (hs : s.size ≤ maxLen) (ho : oth.size ≤ maxLen) :
    Calls Try.prog 29 #[.string s, .bool sm, .bool gr, .string oth] w fun e w' => e = .returned (.bool (allB s.data.toList sm gr oth.data.toList)) ∧ w = w' := by
  have hs' := hs
  unfold maxLen at hs
  go_enter Try.func29, Try.ntmps29
  go_wp2
  go_loop [13] (fun i => ∃ k : Nat, k ≤ s.size ∧ i = .int .i64 k ∧ Hid (allB (s.data.toList.take k) sm gr oth.data.toList = true)) (fun i => s.size - (intOf i).toNat)
  case atStart => exact ⟨0, Nat.zero_le _, rfl, Lib.hid rfl⟩
  case round =>
    obtain ⟨k, hk, rfl, hb⟩ := hrel
    by_cases hlt : k < s.size
    · have hin : inB oth.data.toList s[k] = true ∨ inB oth.data.toList s[k] = false := by cases inB oth.data.toList s[k] <;> simp
      cases sm <;> cases gr
      · have hc : (s[k].toNat : Int) < 48 ∨ (48 ≤ (s[k].toNat : Int) ∧ (s[k].toNat : Int) ≤ 57) ∨ 57 < (s[k].toNat : Int) := by omega
        rcases hc with hc | ⟨hc, hd⟩ | hc
        · have e0 := hc
          rcases hin with hin | hin
          · go_wp2_with (go_at_call 26; refine (in_any _ _ _ ho).mono ?_; rintro e w' ⟨rfl, rfl⟩)
            go_round
            case rel => exact ⟨k + 1, by omega, by go_num, Lib.hid (by rw [take_snoc s k hlt]; exact allB_snoc hb.out (by simp [okB, hin]; try omega))⟩
            case measure => simp [intOf]; omega
          · go_wp2_with (go_at_call 26; refine (in_any _ _ _ ho).mono ?_; rintro e w' ⟨rfl, rfl⟩)
            go_ret
            exact ⟨ret_bool (allB_false (get_mem s k hlt) (by simp [okB, hin]; try omega)).symm, rfl⟩
        · go_wp2_with (go_at_call 26; refine (in_any _ _ _ ho).mono ?_; rintro e w' ⟨rfl, rfl⟩)
          go_round
          case rel => exact ⟨k + 1, by omega, by go_num, Lib.hid (by rw [take_snoc s k hlt]; exact allB_snoc hb.out (by simp [okB]; try omega))⟩
          case measure => simp [intOf]; omega
        · have e0 := hc
          have e57 : decide ((s[k].toNat : Int) ≤ 57) = false := by simp; omega
          rcases hin with hin | hin
          · go_wp2_with (go_at_call 26; refine (in_any _ _ _ ho).mono ?_; rintro e w' ⟨rfl, rfl⟩)
            go_round
            case rel => exact ⟨k + 1, by omega, by go_num, Lib.hid (by rw [take_snoc s k hlt]; exact allB_snoc hb.out (by simp [okB, hin]; try omega))⟩
            case measure => simp [intOf]; omega
          · go_wp2_with (go_at_call 26; refine (in_any _ _ _ ho).mono ?_; rintro e w' ⟨rfl, rfl⟩)
            go_ret
            exact ⟨ret_bool (allB_false (get_mem s k hlt) (by simp [okB, hin]; try omega)).symm, rfl⟩
      · have hc : (s[k].toNat : Int) < 48 ∨ (48 ≤ (s[k].toNat : Int) ∧ (s[k].toNat : Int) ≤ 57) ∨ (58 ≤ (s[k].toNat : Int) ∧ (s[k].toNat : Int) ≤ 64) ∨ (65 ≤ (s[k].toNat : Int) ∧ (s[k].toNat : Int) ≤ 90) ∨ 90 < (s[k].toNat : Int) := by omega
        rcases hc with hc | ⟨hc, hd⟩ | ⟨hc, hd⟩ | ⟨hc, hd⟩ | hc
        · have e0 := hc
          rcases hin with hin | hin
          · go_wp2_with (go_at_call 26; refine (in_any _ _ _ ho).mono ?_; rintro e w' ⟨rfl, rfl⟩)
            go_round
            case rel => exact ⟨k + 1, by omega, by go_num, Lib.hid (by rw [take_snoc s k hlt]; exact allB_snoc hb.out (by simp [okB, hin]; try omega))⟩
            case measure => simp [intOf]; omega
          · go_wp2_with (go_at_call 26; refine (in_any _ _ _ ho).mono ?_; rintro e w' ⟨rfl, rfl⟩)
            go_ret
            exact ⟨ret_bool (allB_false (get_mem s k hlt) (by simp [okB, hin]; try omega)).symm, rfl⟩
        · go_wp2_with (go_at_call 26; refine (in_any _ _ _ ho).mono ?_; rintro e w' ⟨rfl, rfl⟩)
          go_round
          case rel => exact ⟨k + 1, by omega, by go_num, Lib.hid (by rw [take_snoc s k hlt]; exact allB_snoc hb.out (by simp [okB]; try omega))⟩
          case measure => simp [intOf]; omega
        · have e0 := hc
          have e57 : decide ((s[k].toNat : Int) ≤ 57) = false := by simp; omega
          rcases hin with hin | hin
          · go_wp2_with (go_at_call 26; refine (in_any _ _ _ ho).mono ?_; rintro e w' ⟨rfl, rfl⟩)
            go_round
            case rel => exact ⟨k + 1, by omega, by go_num, Lib.hid (by rw [take_snoc s k hlt]; exact allB_snoc hb.out (by simp [okB, hin]; try omega))⟩
            case measure => simp [intOf]; omega
          · go_wp2_with (go_at_call 26; refine (in_any _ _ _ ho).mono ?_; rintro e w' ⟨rfl, rfl⟩)
            go_ret
            exact ⟨ret_bool (allB_false (get_mem s k hlt) (by simp [okB, hin]; try omega)).symm, rfl⟩
        · go_wp2_with (go_at_call 26; refine (in_any _ _ _ ho).mono ?_; rintro e w' ⟨rfl, rfl⟩)
          go_round
          case rel => exact ⟨k + 1, by omega, by go_num, Lib.hid (by rw [take_snoc s k hlt]; exact allB_snoc hb.out (by simp [okB]; try omega))⟩
          case measure => simp [intOf]; omega
        · have e0 := hc
          have e57 : decide ((s[k].toNat : Int) ≤ 57) = false := by simp; omega
          have e90 : decide ((s[k].toNat : Int) ≤ 90) = false := by simp; omega
          rcases hin with hin | hin
          · go_wp2_with (go_at_call 26; refine (in_any _ _ _ ho).mono ?_; rintro e w' ⟨rfl, rfl⟩)
            go_round
            case rel => exact ⟨k + 1, by omega, by go_num, Lib.hid (by rw [take_snoc s k hlt]; exact allB_snoc hb.out (by simp [okB, hin]; try omega))⟩
            case measure => simp [intOf]; omega
          · go_wp2_with (go_at_call 26; refine (in_any _ _ _ ho).mono ?_; rintro e w' ⟨rfl, rfl⟩)
            go_ret
            exact ⟨ret_bool (allB_false (get_mem s k hlt) (by simp [okB, hin]; try omega)).symm, rfl⟩
      · have hc : (s[k].toNat : Int) < 48 ∨ (48 ≤ (s[k].toNat : Int) ∧ (s[k].toNat : Int) ≤ 57) ∨ (58 ≤ (s[k].toNat : Int) ∧ (s[k].toNat : Int) ≤ 96) ∨ (97 ≤ (s[k].toNat : Int) ∧ (s[k].toNat : Int) ≤ 122) ∨ 122 < (s[k].toNat : Int) := by omega
        rcases hc with hc | ⟨hc, hd⟩ | ⟨hc, hd⟩ | ⟨hc, hd⟩ | hc
        · have e0 := hc
          rcases hin with hin | hin
          · go_wp2_with (go_at_call 26; refine (in_any _ _ _ ho).mono ?_; rintro e w' ⟨rfl, rfl⟩)
            go_round
            case rel => exact ⟨k + 1, by omega, by go_num, Lib.hid (by rw [take_snoc s k hlt]; exact allB_snoc hb.out (by simp [okB, hin]; try omega))⟩
            case measure => simp [intOf]; omega
          · go_wp2_with (go_at_call 26; refine (in_any _ _ _ ho).mono ?_; rintro e w' ⟨rfl, rfl⟩)
            go_ret
            exact ⟨ret_bool (allB_false (get_mem s k hlt) (by simp [okB, hin]; try omega)).symm, rfl⟩
        · go_wp2_with (go_at_call 26; refine (in_any _ _ _ ho).mono ?_; rintro e w' ⟨rfl, rfl⟩)
          go_round
          case rel => exact ⟨k + 1, by omega, by go_num, Lib.hid (by rw [take_snoc s k hlt]; exact allB_snoc hb.out (by simp [okB]; try omega))⟩
          case measure => simp [intOf]; omega
        · have e0 := hc
          have e57 : decide ((s[k].toNat : Int) ≤ 57) = false := by simp; omega
          rcases hin with hin | hin
          · go_wp2_with (go_at_call 26; refine (in_any _ _ _ ho).mono ?_; rintro e w' ⟨rfl, rfl⟩)
            go_round
            case rel => exact ⟨k + 1, by omega, by go_num, Lib.hid (by rw [take_snoc s k hlt]; exact allB_snoc hb.out (by simp [okB, hin]; try omega))⟩
            case measure => simp [intOf]; omega
          · go_wp2_with (go_at_call 26; refine (in_any _ _ _ ho).mono ?_; rintro e w' ⟨rfl, rfl⟩)
            go_ret
            exact ⟨ret_bool (allB_false (get_mem s k hlt) (by simp [okB, hin]; try omega)).symm, rfl⟩
        · go_wp2_with (go_at_call 26; refine (in_any _ _ _ ho).mono ?_; rintro e w' ⟨rfl, rfl⟩)
          go_round
          case rel => exact ⟨k + 1, by omega, by go_num, Lib.hid (by rw [take_snoc s k hlt]; exact allB_snoc hb.out (by simp [okB]; try omega))⟩
          case measure => simp [intOf]; omega
        · have e0 := hc
          have e57 : decide ((s[k].toNat : Int) ≤ 57) = false := by simp; omega
          have e122 : decide ((s[k].toNat : Int) ≤ 122) = false := by simp; omega
          rcases hin with hin | hin
          · go_wp2_with (go_at_call 26; refine (in_any _ _ _ ho).mono ?_; rintro e w' ⟨rfl, rfl⟩)
            go_round
            case rel => exact ⟨k + 1, by omega, by go_num, Lib.hid (by rw [take_snoc s k hlt]; exact allB_snoc hb.out (by simp [okB, hin]; try omega))⟩
            case measure => simp [intOf]; omega
          · go_wp2_with (go_at_call 26; refine (in_any _ _ _ ho).mono ?_; rintro e w' ⟨rfl, rfl⟩)
            go_ret
            exact ⟨ret_bool (allB_false (get_mem s k hlt) (by simp [okB, hin]; try omega)).symm, rfl⟩
      · have hc : (s[k].toNat : Int) < 48 ∨ (48 ≤ (s[k].toNat : Int) ∧ (s[k].toNat : Int) ≤ 57) ∨ (58 ≤ (s[k].toNat : Int) ∧ (s[k].toNat : Int) ≤ 64) ∨ (65 ≤ (s[k].toNat : Int) ∧ (s[k].toNat : Int) ≤ 90) ∨ (91 ≤ (s[k].toNat : Int) ∧ (s[k].toNat : Int) ≤ 96) ∨ (97 ≤ (s[k].toNat : Int) ∧ (s[k].toNat : Int) ≤ 122) ∨ 122 < (s[k].toNat : Int) := by omega
        rcases hc with hc | ⟨hc, hd⟩ | ⟨hc, hd⟩ | ⟨hc, hd⟩ | ⟨hc, hd⟩ | ⟨hc, hd⟩ | hc
        · have e0 := hc
          rcases hin with hin | hin
          · go_wp2_with (go_at_call 26; refine (in_any _ _ _ ho).mono ?_; rintro e w' ⟨rfl, rfl⟩)
            go_round
            case rel => exact ⟨k + 1, by omega, by go_num, Lib.hid (by rw [take_snoc s k hlt]; exact allB_snoc hb.out (by simp [okB, hin]; try omega))⟩
            case measure => simp [intOf]; omega
          · go_wp2_with (go_at_call 26; refine (in_any _ _ _ ho).mono ?_; rintro e w' ⟨rfl, rfl⟩)
            go_ret
            exact ⟨ret_bool (allB_false (get_mem s k hlt) (by simp [okB, hin]; try omega)).symm, rfl⟩
        · go_wp2_with (go_at_call 26; refine (in_any _ _ _ ho).mono ?_; rintro e w' ⟨rfl, rfl⟩)
          go_round
          case rel => exact ⟨k + 1, by omega, by go_num, Lib.hid (by rw [take_snoc s k hlt]; exact allB_snoc hb.out (by simp [okB]; try omega))⟩
          case measure => simp [intOf]; omega
        · have e0 := hc
          have e57 : decide ((s[k].toNat : Int) ≤ 57) = false := by simp; omega
          rcases hin with hin | hin
          · go_wp2_with (go_at_call 26; refine (in_any _ _ _ ho).mono ?_; rintro e w' ⟨rfl, rfl⟩)
            go_round
            case rel => exact ⟨k + 1, by omega, by go_num, Lib.hid (by rw [take_snoc s k hlt]; exact allB_snoc hb.out (by simp [okB, hin]; try omega))⟩
            case measure => simp [intOf]; omega
          · go_wp2_with (go_at_call 26; refine (in_any _ _ _ ho).mono ?_; rintro e w' ⟨rfl, rfl⟩)
            go_ret
            exact ⟨ret_bool (allB_false (get_mem s k hlt) (by simp [okB, hin]; try omega)).symm, rfl⟩
        · go_wp2_with (go_at_call 26; refine (in_any _ _ _ ho).mono ?_; rintro e w' ⟨rfl, rfl⟩)
          go_round
          case rel => exact ⟨k + 1, by omega, by go_num, Lib.hid (by rw [take_snoc s k hlt]; exact allB_snoc hb.out (by simp [okB]; try omega))⟩
          case measure => simp [intOf]; omega
        · have e0 := hc
          have e57 : decide ((s[k].toNat : Int) ≤ 57) = false := by simp; omega
          have e90 : decide ((s[k].toNat : Int) ≤ 90) = false := by simp; omega
          rcases hin with hin | hin
          · go_wp2_with (go_at_call 26; refine (in_any _ _ _ ho).mono ?_; rintro e w' ⟨rfl, rfl⟩)
            go_round
            case rel => exact ⟨k + 1, by omega, by go_num, Lib.hid (by rw [take_snoc s k hlt]; exact allB_snoc hb.out (by simp [okB, hin]; try omega))⟩
            case measure => simp [intOf]; omega
          · go_wp2_with (go_at_call 26; refine (in_any _ _ _ ho).mono ?_; rintro e w' ⟨rfl, rfl⟩)
            go_ret
            exact ⟨ret_bool (allB_false (get_mem s k hlt) (by simp [okB, hin]; try omega)).symm, rfl⟩
        · go_wp2_with (go_at_call 26; refine (in_any _ _ _ ho).mono ?_; rintro e w' ⟨rfl, rfl⟩)
          go_round
          case rel => exact ⟨k + 1, by omega, by go_num, Lib.hid (by rw [take_snoc s k hlt]; exact allB_snoc hb.out (by simp [okB]; try omega))⟩
          case measure => simp [intOf]; omega
        · have e0 := hc
          have e57 : decide ((s[k].toNat : Int) ≤ 57) = false := by simp; omega
          have e90 : decide ((s[k].toNat : Int) ≤ 90) = false := by simp; omega
          have e122 : decide ((s[k].toNat : Int) ≤ 122) = false := by simp; omega
          rcases hin with hin | hin
          · go_wp2_with (go_at_call 26; refine (in_any _ _ _ ho).mono ?_; rintro e w' ⟨rfl, rfl⟩)
            go_round
            case rel => exact ⟨k + 1, by omega, by go_num, Lib.hid (by rw [take_snoc s k hlt]; exact allB_snoc hb.out (by simp [okB, hin]; try omega))⟩
            case measure => simp [intOf]; omega
          · go_wp2_with (go_at_call 26; refine (in_any _ _ _ ho).mono ?_; rintro e w' ⟨rfl, rfl⟩)
            go_ret
            exact ⟨ret_bool (allB_false (get_mem s k hlt) (by simp [okB, hin]; try omega)).symm, rfl⟩
    · go_wp2
      go_ret
      exact ⟨ret_bool (by rw [← take_all s k (by omega)]; exact hb.out.symm), rfl⟩
end Go.Proofs.Ytdinaphcglmhoaa
