/-
  The walks of semver.compareInt, nextIdent, isNum, comparePrerelease.
-/
import Derived.Test.YtdinaphcglmhoaaCmpP
import Derived.Test.YtdinaphcglmhoaaPre
import Derived.WalkLawsBesides
namespace Go.Proofs.Ytdinaphcglmhoaa
open Go.RowKit
set_option linter.unusedVariables false
set_option linter.unusedSimpArgs false

theorem str_ne {x y : ByteArray} (h : (x.toList == y.toList) = false) : x.data.toList ≠ y.data.toList := by
  intro e; rw [Lib.toList_data, Lib.toList_data, e] at h; simp at h
theorem str_eq {x y : ByteArray} (h : (x.toList == y.toList) = true) : x.data.toList = y.data.toList := by
  rw [Lib.toList_data, Lib.toList_data] at h; simpa using h
theorem txC_lt {x y : ByteArray} (h : Op.bytesLess x.toList y.toList = true) : txC x.data.toList y.data.toList = -1 := by
  rw [Lib.toList_data, Lib.toList_data] at h; unfold txC; rw [if_pos h]
theorem txC_gt {x y : ByteArray} (h : Op.bytesLess x.toList y.toList = false) (hn : x.data.toList ≠ y.data.toList) : txC x.data.toList y.data.toList = 1 := by
  rw [Lib.toList_data, Lib.toList_data] at h; unfold txC; rw [if_neg (by rw [h]; simp), if_neg hn]
theorem intC_lt {x y : ByteArray} (h : x.size < y.size) : intC x.data.toList y.data.toList = -1 := by unfold intC; rw [if_pos (by rw [size_len, size_len]; exact h)]
theorem intC_gt {x y : ByteArray} (h : y.size < x.size) : intC x.data.toList y.data.toList = 1 := by
  unfold intC; rw [if_neg (by rw [size_len, size_len]; omega), if_pos (by rw [size_len, size_len]; exact h)]
theorem intC_tx {x y : ByteArray} (h : x.size = y.size) : intC x.data.toList y.data.toList = txC x.data.toList y.data.toList := by
  unfold intC; rw [if_neg (by rw [size_len, size_len]; omega), if_neg (by rw [size_len, size_len]; omega)]

theorem compareInt_any (x y : ByteArray) (w : World) (hx : x.size ≤ 4294967296) (hy : y.size ≤ 4294967296) :
    Calls Try.prog 68 #[.string x, .string y] w fun e w' => e = .returned (.int .i64 (intC x.data.toList y.data.toList)) ∧ w = w' := by
  cases he : (x.toList == y.toList) with
  | true =>
    have E : Hid (intC x.data.toList y.data.toList = 0) := Lib.hid (by rw [str_eq he]; exact intC_good.self _)
    go_enter Try.func68, Try.ntmps68
    go_wp2
    go_ret
    exact ⟨ret_int E.out.symm, rfl⟩
  | false =>
    rcases Nat.lt_trichotomy x.size y.size with h | h | h
    · have E := Lib.hid (intC_lt h)
      go_enter Try.func68, Try.ntmps68
      go_wp2
      go_ret
      exact ⟨ret_int E.out.symm, rfl⟩
    · have E1 := intC_tx h
      have h1 : x.size ≤ y.size := by omega
      have h2 : y.size ≤ x.size := by omega
      cases hl : Op.bytesLess x.toList y.toList with
      | true =>
        have E : Hid (intC x.data.toList y.data.toList = -1) := Lib.hid (by rw [E1, txC_lt hl])
        clear h E1
        go_enter Try.func68, Try.ntmps68
        go_wp2
        go_ret
        exact ⟨ret_int E.out.symm, rfl⟩
      | false =>
        have E : Hid (intC x.data.toList y.data.toList = 1) := Lib.hid (by rw [E1, txC_gt hl (str_ne he)])
        clear h E1
        go_enter Try.func68, Try.ntmps68
        go_wp2
        go_ret
        exact ⟨ret_int E.out.symm, rfl⟩
    · have E := Lib.hid (intC_gt h)
      have h' : ¬ x.size < y.size := by omega
      go_enter Try.func68, Try.ntmps68
      go_wp2
      go_ret
      exact ⟨ret_int E.out.symm, rfl⟩

def numD (l : Bs) : Bool := l.all isD
theorem isNum_any (s : ByteArray) (w : World) (hs : s.size ≤ 4294967296) :
    Calls Try.prog 87 #[.string s] w fun e w' => e = .returned (.bool (numD s.data.toList)) ∧ w = w' := by
  go_enter Try.func87, Try.ntmps87
  go_wp2
  go_loop [3] (fun i => ∃ k : Nat, k ≤ s.size ∧ i = .int .i64 k ∧ Hid (∀ c ∈ s.data.toList.take k, isD c = true)) (fun i => s.size - (intOf i).toNat)
  case atStart => exact ⟨0, Nat.zero_le _, rfl, Lib.hid (by simp)⟩
  case round =>
    obtain ⟨k, hk, rfl, hall⟩ := hrel
    by_cases hlt : k < s.size
    · by_cases hq : 48 ≤ (s[k].toNat : Int) ∧ (s[k].toNat : Int) ≤ 57
      · obtain ⟨hq1, hq2⟩ := hq
        have HN := Lib.hid (take_isD hlt hall.out (isD_yes hq1 hq2))
        go_wp2
        go_round
        case rel => exact ⟨k + 1, by omega, by go_num, HN⟩
        case measure => simp [intOf]; omega
      · have E : Hid (numD s.data.toList = false) := Lib.hid (by
          unfold numD; rw [List.all_eq_false]; exact ⟨_, get_mem s k hlt, by rw [isD_no (by omega)]; simp⟩)
        have hcl : (s[k].toNat : Int) < 48 ∨ (48 ≤ (s[k].toNat : Int) ∧ 57 < (s[k].toNat : Int)) := by omega
        have e1 : ((k : Int) == (s.size : Int)) = false := by simp; omega
        clear hq
        rcases hcl with hq | ⟨hq1, hq2⟩
        all_goals
          go_wp2
          go_ret
          exact ⟨ret_bool E.out.symm, rfl⟩
    · have E : Hid (numD s.data.toList = true) := Lib.hid (by
        unfold numD; rw [List.all_eq_true]; have := hall.out; rw [take_all s k (by omega)] at this; exact this)
      have e1 : ((k : Int) == (s.size : Int)) = true := by simp; omega
      go_wp2
      go_ret
      exact ⟨ret_bool E.out.symm, rfl⟩

def nDot (c : UInt8) : Bool := !(c == 46)
def NxtE (l : Bs) (w : World) (e : Ending) (w' : World) : Prop := ∃ (a b : ByteArray) (q : Nat), e = .returned (.tuple #[.string a, .string b]) ∧ a.data.toList = l.takeWhile nDot ∧ b.data.toList = l.dropWhile nDot ∧ w' = w.drewN q

theorem nextIdent_any (s : ByteArray) (w : World) (hs : s.size ≤ 4294967296) :
    Calls Try.prog 86 #[.string s] w (NxtE s.data.toList w) := by
  go_enter Try.func86, Try.ntmps86
  go_wp2
  go_loop [4] (fun i => ∃ k : Nat, k ≤ s.size ∧ i = .int .i64 k ∧ Hid (∀ c ∈ s.data.toList.take k, nDot c = true)) (fun i => s.size - (intOf i).toNat)
  case atStart => exact ⟨0, Nat.zero_le _, rfl, Lib.hid (by simp)⟩
  case round =>
    obtain ⟨k, hk, rfl, hall⟩ := hrel
    have fin : (k = s.data.toList.length ∨ ∃ c, s.data.toList[k]? = some c ∧ nDot c = false) → (s.extract 0 k).data.toList = s.data.toList.takeWhile nDot ∧ (s.extract k s.size).data.toList = s.data.toList.dropWhile nDot := fun h2 => by
      obtain ⟨e1, e2⟩ := takeWhile_at hall.out h2
      rw [e1, e2, extract_take, extract_drop]; exact ⟨rfl, rfl⟩
    have FIN := Lib.hid fin
    clear fin
    by_cases hlt : k < s.size
    · rcases bool_or ((s[k].toNat : Int) != 46) with hq | hq
      · have HN : Hid (∀ c ∈ s.data.toList.take (k + 1), nDot c = true) := Lib.hid (by
          rw [take_snoc s k hlt]
          intro c hc
          rcases List.mem_append.1 hc with hc | hc
          · exact hall.out c hc
          · simp at hc; subst hc; unfold nDot; simp at hq ⊢; intro e; rw [e] at hq; exact hq rfl)
        go_wp2
        go_round
        case rel => exact ⟨k + 1, by omega, by go_num, HN⟩
        case measure => simp [intOf]; omega
      · have F := Lib.hid (FIN.out (.inr ⟨_, byte_at' s k hlt, by
          unfold nDot; simp at hq ⊢; exact byte_eq' (n := 46) (by simpa using hq)⟩))
        clear FIN
        go_wp2
        go_quiet (fail)
        go_wp2
        go_ret2
        exact ⟨_, _, _, rfl, F.out.1, F.out.2, rfl⟩
    · have F := Lib.hid (FIN.out (.inl (by rw [size_len]; omega)))
      clear FIN
      go_wp2
      go_quiet (fail)
      go_wp2
      go_ret2
      exact ⟨_, _, _, rfl, F.out.1, F.out.2, rfl⟩

/-- the pieces of a text whose first byte is - or . -/
def pcs (u : Bs) : List Bs := if u = [] then [] else cutL (u.drop 1) 46
theorem cutL_step (m : Bs) : cutL m 46 = m.takeWhile nDot :: pcs (m.dropWhile nDot) := by
  induction m with
  | nil => simp [cutL, pcs]
  | cons c r ih =>
    by_cases hc : c = 46
    · subst hc
      simp [cutL, nDot, pcs, List.takeWhile_cons, List.dropWhile_cons]
    · have hn : nDot c = true := by simp [nDot, hc]
      simp only [cutL, if_neg hc, ih, List.takeWhile_cons, List.dropWhile_cons, hn, if_true]
theorem pcs_step {u m : Bs} (h0 : u ≠ []) (h : u.drop 1 = m) : pcs u = m.takeWhile nDot :: pcs (m.dropWhile nDot) := by
  unfold pcs; rw [if_neg h0, h]; exact cutL_step m
theorem cutL_inj : ∀ (x y : Bs), cutL x 46 = cutL y 46 → x = y
  | [], [], _ => rfl
  | [], d :: y, h => by
    simp only [cutL] at h
    split at h
    · simp at h; exact absurd h (cutL_ne y 46)
    · split at h <;> simp at h
  | c :: x, [], h => by
    simp only [cutL] at h
    split at h
    · simp at h; exact absurd h (cutL_ne x 46)
    · split at h <;> simp at h
  | c :: x, d :: y, h => by
    simp only [cutL] at h
    by_cases hc : c = 46 <;> by_cases hd : d = 46
    · rw [if_pos hc, if_pos hd] at h
      simp at h
      rw [hc, hd, cutL_inj x y h]
    · rw [if_pos hc, if_neg hd] at h
      split at h <;> simp at h
    · rw [if_neg hc, if_pos hd] at h
      split at h <;> simp at h
    · rw [if_neg hc, if_neg hd] at h
      cases hx : cutL x 46 with
      | nil => exact absurd hx (cutL_ne x 46)
      | cons a s =>
        cases hy : cutL y 46 with
        | nil => exact absurd hy (cutL_ne y 46)
        | cons b t =>
          rw [hx, hy] at h
          simp at h
          rw [h.1.1, cutL_inj x y (by rw [hx, hy, h.1.2, h.2])]

def Hd (x : Bs) : Prop := x = [] ∨ x[0]? = some 45
theorem pk_pcs {x : Bs} (h : x ≠ []) : pk x = some (pcs x) := by unfold pk pcs; rw [if_neg h, if_neg h]
theorem pcs_inj {x y : Bs} (hx : Hd x) (hy : Hd y) (h0 : x ≠ []) (h1 : y ≠ []) (h : pcs x = pcs y) : x = y := by
  unfold pcs at h
  rw [if_neg h0, if_neg h1] at h
  have := cutL_inj _ _ h
  rcases hx with hx | hx
  · exact absurd hx h0
  · rcases hy with hy | hy
    · exact absurd hy h1
    · rw [head_drop hx, head_drop hy, this]
end Go.Proofs.Ytdinaphcglmhoaa
