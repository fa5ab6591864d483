/-
  The walks of zzIndex, zzCut, zzCount (at a part of one byte), strings.TrimSuffix.
-/
import Derived.Test.YtdinaphcglmhoaaDoorSmallP
import Derived.Test.YtdinaphcglmhoaaDoorSufP
import Derived.Test.YtdinaphcglmhoaaDoorIn
import Derived.Deep.QuietTactic
import Derived.BigQuiet
namespace Go.Proofs.YtdinaphcglmhoaaDoor
open Go.RowKit
set_option linter.unusedVariables false

def IdxR (l : Bs) (b : UInt8) (n : Int) : Prop := (n = -1 ∧ b ∉ l) ∨ (∃ k : Nat, n = k ∧ k < l.length ∧ l[k]? = some b ∧ b ∉ l.take k)
def IdxE (l : Bs) (b : UInt8) (w : World) (e : Ending) (w' : World) : Prop := ∃ n : Int, e = .returned (.int .i64 n) ∧ IdxR l b n ∧ w = w'

theorem ext_one (s : ByteArray) (k : Nat) (h : k < s.size) : (s.extract k (k + 1)).data.toList = [s[k]] := by
  rw [Lib.extract_data, List.take_drop, show k + (k + 1 - k) = k + 1 from by omega, take_snoc s k h, List.drop_append_of_le_length (by simp; omega)]
  rw [List.drop_of_length_le (by simp; omega)]; rfl
theorem ext_test (s sub : ByteArray) (b : UInt8) (hb : sub.data.toList = [b]) (k : Nat) (h : k < s.size) : ((s.extract k (k + 1)).toList == sub.toList) = (s[k] == b) := by
  rw [Lib.toList_data, Lib.toList_data, ext_one s k h, hb, Bool.eq_iff_iff]; simp

set_option maxHeartbeats 1000000 in
theorem zzIndex_any (s sub : ByteArray) (b : UInt8) (hb : sub.data.toList = [b]) (w : World) (hs : s.size ≤ 4294967296) :
    Calls Tryd.prog 22 #[.string s, .string sub] w (IdxE s.data.toList b w) := by
  have hz : sub.size = 1 := by rw [← size_len, hb]; rfl
  have HB := Lib.hid hb
  have HT := Lib.hid (ext_test s sub b hb)
  clear hb
  go_enter Tryd.func22, Tryd.ntmps22
  go_wp2
  go_loop [5] (fun i => ∃ k : Nat, k ≤ s.size ∧ i = .int .i64 k ∧ Hid (b ∉ s.data.toList.take k)) (fun i => s.size - (intOf i).toNat)
  case atStart => exact ⟨0, Nat.zero_le _, rfl, Lib.hid (by simp)⟩
  case round =>
    obtain ⟨k, hk, rfl, hn⟩ := hrel
    by_cases hlt : k < s.size
    · have ht := HT.out k hlt
      by_cases hc : s[k] = b
      · have ht1 : ((s.extract k (k + 1)).toList == sub.toList) = true := by rw [ht]; simpa using hc
        have F : Hid (IdxR s.data.toList b k) := Lib.hid (.inr ⟨k, rfl, by rw [size_len]; exact hlt, by rw [byte_at' s k hlt, hc], hn.out⟩)
        clear ht hc
        go_wp2
        go_ret
        exact ⟨_, rfl, F.out, rfl⟩
      · have ht1 : ((s.extract k (k + 1)).toList == sub.toList) = false := by rw [ht]; simpa using hc
        have F : Hid (b ∉ s.data.toList.take (k + 1)) := Lib.hid (by
          rw [take_snoc s k hlt, List.mem_append, not_or]
          exact ⟨hn.out, by simpa using fun e => hc e.symm⟩)
        clear ht hc
        go_wp2
        go_round
        case rel => exact ⟨k + 1, by omega, by go_num, F⟩
        case measure => simp [intOf]; omega
    · have F : Hid (IdxR s.data.toList b (-1)) := Lib.hid (.inl ⟨rfl, by rw [← take_all s k (by omega)]; exact hn.out⟩)
      go_wp2
      go_ret
      exact ⟨_, rfl, F.out, rfl⟩

def CutE (s : ByteArray) (b : UInt8) (w : World) (e : Ending) (w' : World) : Prop := ∃ (x y : ByteArray) (f : Bool), e = .returned (.tuple #[.string x, .string y, .bool f]) ∧
  ((f = false ∧ x = s ∧ y = ⟨#[]⟩ ∧ b ∉ s.data.toList) ∨ (f = true ∧ b ∉ x.data.toList ∧ s.data.toList = x.data.toList ++ b :: y.data.toList)) ∧ Below w.heap.size w w'
theorem drop_at {l : Bs} {k : Nat} {b : UInt8} (h : l[k]? = some b) : l = l.take k ++ b :: l.drop (k + 1) := by
  have hk : k < l.length := (List.getElem?_eq_some_iff.1 h).1
  have e : l[k] = b := by rw [List.getElem?_eq_getElem hk] at h; simpa using h
  conv => lhs; rw [← List.take_append_drop k l, List.drop_eq_getElem_cons hk, e]
theorem below_dq {g : Nat} {w w' : World} (h : Below g w w') (n : Nat) : Below g w (w'.drewN n) := by
  induction n with
  | zero => exact h
  | succ n ih => exact ih.drew

set_option maxHeartbeats 1000000 in
theorem zzCut_any (s sub : ByteArray) (b : UInt8) (hb : sub.data.toList = [b]) (w : World) (hs : s.size ≤ 4294967296) :
    Calls Tryd.prog 16 #[.string s, .string sub] w (CutE s b w) := by
  have hz : sub.size = 1 := by rw [← size_len, hb]; rfl
  have I := Lib.hid (fun wx => zzIndex_any s sub b hb wx hs)
  have HB0 := Lib.hid (Below.refl w.heap.size w)
  clear hb
  go_enter Tryd.func16, Tryd.ntmps16
  go_wp2_with fail
  refine (I.out _).mono ?_
  rintro e w' ⟨n, rfl, hR, rfl⟩
  rcases hR with ⟨rfl, hno⟩ | ⟨k, rfl, hk, hat, hno⟩
  · have F := Lib.hid hno
    clear hno
    go_wp2
    go_ret3
    exact ⟨s, _, false, rfl, .inl ⟨rfl, rfl, rfl, F.out⟩, HB0.out⟩
  · have hk' : k < s.size := by rw [← size_len]; exact hk
    have F : Hid (b ∉ (s.extract 0 k).data.toList ∧ s.data.toList = (s.extract 0 k).data.toList ++ b :: (s.extract (k + 1) s.size).data.toList) := Lib.hid (by
      rw [extract_take, extract_drop]
      exact ⟨hno, drop_at hat⟩)
    clear hno hat hk
    go_wp2
    go_quiet (fail)
    go_wp2
    go_ret3
    exact ⟨_, _, true, rfl, .inr ⟨rfl, F.out.1, F.out.2⟩, below_dq HB0.out _⟩

def cntB (l : Bs) (b : UInt8) : Nat := l.count b

set_option maxHeartbeats 1000000 in
theorem zzCount_any (s sub : ByteArray) (b : UInt8) (hb : sub.data.toList = [b]) (w : World) (hs : s.size ≤ 4294967296) :
    Calls Tryd.prog 18 #[.string s, .string sub] w fun e w' => e = .returned (.int .i64 (cntB s.data.toList b : Nat)) ∧ w = w' := by
  have hz : sub.size = 1 := by rw [← size_len, hb]; rfl
  have HT := Lib.hid (ext_test s sub b hb)
  clear hb
  go_enter Tryd.func18, Tryd.ntmps18
  go_wp2
  go_loop [5, 6] (fun n i => ∃ k m : Nat, k ≤ s.size ∧ m ≤ k ∧ i = .int .i64 k ∧ n = .int .i64 m ∧ Hid (m = (s.data.toList.take k).count b)) (fun _ i => s.size - (intOf i).toNat)
  case atStart => exact ⟨0, 0, Nat.zero_le _, Nat.le_refl _, rfl, rfl, Lib.hid (by simp)⟩
  case round =>
    obtain ⟨k, m, hk, hm, rfl, rfl, hn⟩ := hrel
    by_cases hlt : k < s.size
    · have ht := HT.out k hlt
      by_cases hc : s[k] = b
      · have ht1 : ((s.extract k (k + 1)).toList == sub.toList) = true := by rw [ht]; simpa using hc
        have F : Hid (m + 1 = (s.data.toList.take (k + 1)).count b) := Lib.hid (by rw [take_snoc s k hlt, List.count_append, hc, hn.out]; simp)
        clear ht hc
        go_wp2
        go_round
        case rel => exact ⟨k + 1, m + 1, by omega, by omega, by go_num, by go_num, F⟩
        case measure => simp [intOf]; omega
      · have ht1 : ((s.extract k (k + 1)).toList == sub.toList) = false := by rw [ht]; simpa using hc
        have F : Hid (m = (s.data.toList.take (k + 1)).count b) := Lib.hid (by
          rw [take_snoc s k hlt, List.count_append, hn.out, List.count_cons]
          have : (s[k] == b) = false := by simpa using hc
          rw [this]; simp)
        clear ht hc
        go_wp2
        go_round
        case rel => exact ⟨k + 1, m, by omega, by omega, by go_num, rfl, F⟩
        case measure => simp [intOf]; omega
    · have F : Hid (m = cntB s.data.toList b) := Lib.hid (by unfold cntB; rw [← take_all s k (by omega)]; exact hn.out)
      go_wp2
      go_ret
      exact ⟨ret_int (by rw [F.out]), rfl⟩

set_option maxHeartbeats 1000000 in
theorem trimSuffix_any (s p : ByteArray) (w : World) (hs : s.size ≤ maxLen) (hp : p.size ≤ maxLen) :
    Calls Tryd.prog 17 #[.string s, .string p] w fun e w' => e = .returned (.string (if sufB p.data.toList s.data.toList = true then s.extract 0 (s.size - p.size) else s)) ∧ w = w' := by
  unfold maxLen at hs
  cases hy : sufB p.data.toList s.data.toList with
  | true =>
    have hsz : p.size ≤ s.size := by
      unfold sufB at hy
      rw [Bool.and_eq_true, decide_eq_true_eq, size_len, size_len] at hy
      exact hy.1
    have E : ((s.extract (s.size - p.size) s.size).toList == p.toList) = true := by
      unfold sufB at hy
      rw [Bool.and_eq_true, size_len, size_len] at hy
      rw [Lib.toList_data, Lib.toList_data, extract_drop]; exact hy.2
    clear hy
    go_enter Tryd.func17, Tryd.ntmps17
    go_wp2
    go_ret
    exact ⟨rfl, rfl⟩
  | false =>
    by_cases hsz : p.size ≤ s.size
    · have E : ((s.extract (s.size - p.size) s.size).toList == p.toList) = false := by
        unfold sufB at hy
        rw [Bool.and_eq_false_iff, size_len, size_len] at hy
        rcases hy with hy | hy
        · exact absurd hsz (of_decide_eq_false hy)
        · rw [Lib.toList_data, Lib.toList_data, extract_drop]; exact hy
      clear hy
      go_enter Tryd.func17, Tryd.ntmps17
      go_wp2
      go_ret
      exact ⟨rfl, rfl⟩
    · have hsz' : s.size < p.size := by omega
      clear hy hsz
      go_enter Tryd.func17, Tryd.ntmps17
      go_wp2
      go_ret
      exact ⟨rfl, rfl⟩
end Go.Proofs.YtdinaphcglmhoaaDoor
