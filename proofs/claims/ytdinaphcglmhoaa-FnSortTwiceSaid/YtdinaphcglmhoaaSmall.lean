/-
  The walks of spec.Ascii, spec.digits, spec.letter, spec.join, spec.numbered, spec.short, spec.Great.
-/
import Derived.Test.YtdinaphcglmhoaaSmallP
import Derived.Test.YtdinaphcglmhoaaCut
import Derived.Lib.SlBytesRow
import Derived.Laws.IdiomStrings
namespace Go.Proofs.Ytdinaphcglmhoaa
open Go.RowKit

set_option maxRecDepth 100000 in
set_option maxHeartbeats 400000 in
theorem ascii_any (s : ByteArray) (w : World) (hs : s.size ≤ maxLen) :
    Calls Try.prog 57 #[.string s] w fun e w' => e = .returned (.bool (asciiB s.data.toList)) ∧ w = w' := by
  unfold maxLen at hs
  go_enter Try.func57, Try.ntmps57
  go_wp2
  go_loop [6] (fun i => ∃ k : Nat, k ≤ s.size ∧ i = .int .i64 k ∧ Hid (asciiB (s.data.toList.take k) = true)) (fun i => s.size - (intOf i).toNat)
  case atStart => exact ⟨0, Nat.zero_le _, rfl, Lib.hid rfl⟩
  case round =>
    obtain ⟨k, hk, rfl, hb⟩ := hrel
    by_cases hlt : k < s.size
    · by_cases h8 : (s[k].toNat : Int) < 128
      · go_wp2
        go_round
        case rel => exact ⟨k + 1, by omega, by go_num, Lib.hid (by rw [take_snoc s k hlt]; exact asciiB_snoc hb.out (by unfold loB; exact decide_eq_true h8))⟩
        case measure => simp [intOf]; omega
      · go_wp2
        go_ret
        exact ⟨ret_bool (asciiB_false (get_mem s k hlt) (by unfold loB; exact decide_eq_false (by omega))).symm, rfl⟩
    · go_wp2
      go_ret
      exact ⟨ret_bool (by rw [← take_all s k (by omega)]; exact hb.out.symm), rfl⟩

set_option maxHeartbeats 400000 in
theorem digits_any (s : ByteArray) (w : World) (hs : s.size ≤ maxLen) :
    Calls Try.prog 44 #[.string s] w fun e w' => e = .returned (.bool (digB s.data.toList)) ∧ w = w' := by
  have hm := hs
  unfold maxLen at hs
  by_cases h0 : s.size = 0
  · have h0' := digB_nil (l := s.data.toList) (by simpa using h0)
    have H := Lib.hid h0'
    have h1 : s.size ≤ 0 := by omega
    clear h0 h0'
    go_enter Try.func44, Try.ntmps44
    go_wp2
    go_ret
    exact ⟨ret_bool H.out.symm, rfl⟩
  · have h1 : 0 < s.size := by omega
    have H := Lib.hid (digB_cons (l := s.data.toList) (by simpa using h1))
    clear h0
    go_enter Try.func44, Try.ntmps44
    go_wp2_with (go_at_call 29; refine (all_any _ _ _ _ _ hm (Nat.zero_le _)).mono ?_; rintro e w' ⟨rfl, rfl⟩)
    go_ret
    exact ⟨ret_bool H.out.symm, rfl⟩

set_option maxHeartbeats 400000 in
theorem letter_any (s : ByteArray) (w : World) (hs : s.size ≤ maxLen) :
    Calls Try.prog 45 #[.string s] w fun e w' => e = .returned (.bool (letterB s.data.toList)) ∧ w = w' := by
  have hm := hs
  unfold maxLen at hs
  by_cases h0 : s.size = 0
  · have H := Lib.hid (letterB_nil (l := s.data.toList) (by simpa using h0))
    have h1 : s.size ≤ 0 := by omega
    clear h0
    go_enter Try.func45, Try.ntmps45
    go_wp2
    go_ret
    exact ⟨ret_bool H.out.symm, rfl⟩
  · have h1 : 0 < s.size := by omega
    have H := Lib.hid (letterB_cons (l := s.data.toList) (by simpa using h1))
    have hx : (s.extract 0 1).size ≤ maxLen := by simp [maxLen]; omega
    have hA : allB (s.data.toList.take 1) true true [] = true ∨ allB (s.data.toList.take 1) true true [] = false := by cases allB (s.data.toList.take 1) true true [] <;> simp
    clear h0
    rcases hA with hA | hA
    all_goals
      go_enter Try.func45, Try.ntmps45
      go_wp2_with (first | (go_at_call 29; refine (all_any _ _ _ _ _ hx (Nat.zero_le _)).mono ?_; rintro e w' ⟨rfl, rfl⟩) | (go_at_call 44; refine (digits_any _ _ hx).mono ?_; rintro e w' ⟨rfl, rfl⟩))
      go_ret
      exact ⟨ret_bool (by rw [H.out, hA]; simp), rfl⟩

set_option maxHeartbeats 400000 in
theorem join_any (a b : Int) (w : World) :
    Calls Try.prog 30 #[.int .i64 a, .int .i64 b] w fun e w' => e = .returned (.int .i64 (joinN a b)) ∧ w = w' := by
  by_cases h1 : a = 2
  · subst h1
    go_enter Try.func30, Try.ntmps30
    go_wp2
    go_ret
    exact ⟨ret_int (by simp [joinN]), rfl⟩
  · by_cases h2 : b = 2
    · subst h2
      have e1 : (a == 2) = false := by simpa using h1
      go_enter Try.func30, Try.ntmps30
      go_wp2
      go_ret
      exact ⟨ret_int (by simp [joinN]), rfl⟩
    · have e1 : (a == 2) = false := by simpa using h1
      have e2 : (b == 2) = false := by simpa using h2
      by_cases h3 : a = 0
      · subst h3
        clear h1 h2
        go_enter Try.func30, Try.ntmps30
        go_wp2
        go_ret
        exact ⟨ret_int (by simp at e2; simp [joinN, e2]), rfl⟩
      · by_cases h4 : b = 0
        · subst h4
          have e3 : (a == 0) = false := by simpa using h3
          clear h1 h2 h3
          go_enter Try.func30, Try.ntmps30
          go_wp2
          go_ret
          exact ⟨ret_int (by simp at e1; simp [joinN, e1]), rfl⟩
        · have e3 : (a == 0) = false := by simpa using h3
          have e4 : (b == 0) = false := by simpa using h4
          clear h1 h2 h3 h4
          go_enter Try.func30, Try.ntmps30
          go_wp2
          go_ret
          exact ⟨ret_int (by simp at e1 e2 e3 e4; simp [joinN, e1, e2, e3, e4]), rfl⟩
set_option maxHeartbeats 400000 in
theorem numbered_any (s : ByteArray) (w : World) (hs : s.size ≤ maxLen) :
    Calls Try.prog 59 #[.string s] w fun e w' => SomeBool e ∧ w = w' := by
  have hm := hs
  unfold maxLen at hs
  go_enter Try.func59, Try.ntmps59
  go_wp2
  go_loop [3] (fun i => ∃ k : Nat, 1 ≤ k ∧ k ≤ s.size + 1 ∧ i = .int .i64 k) (fun i => s.size + 1 - (intOf i).toNat)
  case atStart => exact ⟨1, Nat.le_refl _, by omega, rfl⟩
  case round =>
    obtain ⟨k, h1, hk, rfl⟩ := hrel
    by_cases hlt : k < s.size
    · have hx : (s.extract k (k + 1)).size ≤ maxLen := by simp [maxLen]; omega
      have hj : k - 1 < s.size := by omega
      have h0 : (0 : Int) ≤ (k : Int) - 1 := by omega
      have h2 : ((k : Int) - 1).toNat = k - 1 := by omega
      go_wp2_with (go_at_call 44; refine (digits_any _ _ hx).mono ?_; rintro e w' ⟨rfl, rfl⟩)
      · go_ret
        exact ⟨⟨_, rfl⟩, rfl⟩
      all_goals
        go_round
        case rel => exact ⟨k + 1, by omega, by omega, by go_num⟩
        case measure => simp [intOf]; omega
    · go_wp2
      go_ret
      exact ⟨⟨_, rfl⟩, rfl⟩

set_option maxHeartbeats 400000 in
theorem short_any (s : ByteArray) (w : World) (hs : s.size ≤ 4294967296) :
    Calls Try.prog 60 #[.string s] w fun e w' => SomeBool e ∧ Below w.heap.size w w' := by
  go_enter Try.func60, Try.ntmps60
  go_wp2_with fail
  refine (cut_any s 126 w hs).mono ?_
  rintro e w1 ⟨g, cap, rfl, hrow, hb⟩
  have hne := List.length_pos_iff.2 (cutL_ne s.data.toList 126)
  have hlen : (cutL s.data.toList 126).length ≤ s.size + 1 := by have := cutL_len s.data.toList 126; simpa using this
  have hsz : ∀ x ∈ cutL s.data.toList 126, x.length ≤ s.size := by have := cutL_size s.data.toList 126; simpa using this
  generalize cutL s.data.toList 126 = L at *
  by_cases h1 : L.length = 1
  · have h2 : L.length ≤ 1 := by omega
    clear h1 hsz hrow
    go_wp2
    go_ret
    exact ⟨⟨_, rfl⟩, hb⟩
  · have h2 : 1 < L.length := by omega
    have hcell := hrow.at_ (L.length - 1) (by omega)
    have hx : (tx L[L.length - 1]).size ≤ maxLen := by
      have := hsz _ (List.getElem_mem (l := L) (n := L.length - 1) (by omega))
      simp only [tx_size]; unfold maxLen; omega
    clear h1 hsz hrow
    go_wp2_with (go_at_call 44; refine (digits_any _ _ hx).mono ?_; rintro e w' ⟨rfl, rfl⟩)
    go_ret
    exact ⟨⟨_, rfl⟩, hb⟩

set_option maxHeartbeats 400000 in
theorem great_any (s : ByteArray) (w : World) (hs : s.size ≤ maxLen) :
    Calls Try.prog 71 #[.string s] w fun e w' => SomeTx s.size e ∧ Below w.heap.size w w' := by
  unfold maxLen at hs
  obtain ⟨cap, W0, hconv, hrow, hb⟩ := conv_row (P := Try.prog) w 9 59 5 s Try.underlying9 Try.underlying59 Try.underlying5
  go_enter Try.func71, Try.ntmps71
  go_wp2
  go_loopw [10] (fun i wr => ∃ (k : Nat) (t : Bs), k ≤ s.size ∧ i = .int .i64 k ∧ Hid (t.length = s.size) ∧ ByteRow wr w.heap.size t ∧ Below w.heap.size w wr) (fun i _ => s.size - (intOf i).toNat)
  case atStart => exact ⟨0, s.data.toList, Nat.zero_le _, rfl, Lib.hid (by simp), hrow, hb⟩
  case round =>
    obtain ⟨k, t, hk, rfl, ht, hr, hbr⟩ := hrel
    clear hconv hrow hb
    by_cases hlt : k < s.size
    · have hkt : k < t.length := by rw [ht.out]; exact hlt
      have hcell := hr.2.1 k hkt
      have hfz := hr.2.2 k hkt
      by_cases hc : 97 ≤ (t[k].toNat : Int) ∧ (t[k].toNat : Int) ≤ 122
      · obtain ⟨hc1, hc2⟩ := hc
        have hset := hr.set_ k hkt (t[k] - 32)
        have e32 : ((t[k] - 32 : UInt8).toNat : Int) = (t[k].toNat : Int) - 32 := by
          rw [UInt8.toNat_sub_of_le _ _ (by rw [UInt8.le_iff_toNat_le]; show (32 : UInt8).toNat ≤ _; simp; omega)]; simp; omega
        rw [e32] at hset
        have HS := Lib.hid hset
        have HB := Lib.hid (hbr.setCell (p := ⟨w.heap.size, k, none⟩) (Nat.le_refl _) (.int .u8 ((t[k].toNat : Int) - 32)))
        have hlen : Hid ((t.set k (t[k] - 32)).length = s.size) := Lib.hid (by rw [List.length_set]; exact ht.out)
        clear hset e32 hr hbr ht
        go_wp2
        go_roundw
        case rel => exact ⟨k + 1, _, by omega, by go_num, hlen, HS.out, HB.out⟩
        case measure => simp [intOf]; omega
      · have H := Lib.hid hr
        have HB := Lib.hid hbr
        clear hr hbr
        have hc' : (t[k].toNat : Int) < 97 ∨ (97 ≤ (t[k].toNat : Int) ∧ 122 < (t[k].toNat : Int)) := by omega
        rcases hc' with hc' | ⟨hc1, hc2⟩
        all_goals
          clear hc
          go_wp2
          go_roundw
          case rel => exact ⟨k + 1, t, by omega, by go_num, ht, H.out, HB.out⟩
          case measure => simp [intOf]; omega
    · obtain rfl : k = s.size := by omega
      have hback := run_convert_bytes_back (P := Try.prog) wr 59 9 5 ⟨w.heap.size, 0, none⟩ cap t Try.underlying59 Try.underlying5 Try.underlying9 (fun j hj => by
        rw [show (⟨w.heap.size, 0, none⟩ : Addr).add j = ⟨w.heap.size, j, none⟩ from by unfold Addr.add; split <;> simp_all]
        exact hr.2.1 j hj)
      rw [ht.out] at hback
      go_wp2
      go_ret
      exact ⟨⟨tx t, by simp; exact ht.out, rfl⟩, hbr⟩

end Go.Proofs.Ytdinaphcglmhoaa
