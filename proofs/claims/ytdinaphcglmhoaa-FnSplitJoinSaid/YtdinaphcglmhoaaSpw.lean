/-
  impl.SplitPathVersion, laws.long; the plain law of laws.FnSplit and laws.FnSplitJoin.
-/
import Derived.Test.YtdinaphcglmhoaaSgo
namespace Go.Proofs.Ytdinaphcglmhoaa
open Go.RowKit
set_option linter.unusedVariables false

def FineE (l v : Bs) (e : Ending) : Prop := ∃ pre : Bs, l = pre ++ v ∧ e = .returned (trip (pre, v, true))

/-- THE PLAIN LAW: at a path that is no one of gopkg.in and whose version is told -/
theorem spv_plain {l v : Bs} (h : PlainFine l v) {i : Nat} (hi : Ends l i) : ∃ pre, l = pre ++ v ∧ spvAt l i = (pre, v, true) := by
  rcases h with ⟨rfl, hno⟩ | ⟨pre, ds, rfl, hne, hd, h0, h1, rfl⟩
  · refine ⟨l, by simp, ?_⟩
    unfold spvAt
    rw [if_pos]
    rcases Nat.lt_or_ge 1 i with h2 | h2
    · rcases Nat.lt_or_ge i l.length with h3 | h3
      · by_cases h4 : l[i - 1]? = some 118
        · by_cases h5 : l[i - 2]? = some 47
          · exfalso
            refine hno (l.take (i - 2)) (l.drop i) ⟨?_, ?_, hi.2.1⟩
            · have e1 : l.drop (i - 2) = 47 :: l.drop (i - 1) := by
                rw [List.drop_eq_getElem_cons (show i - 2 < l.length by omega), show i - 2 + 1 = i - 1 by omega]
                rw [List.getElem?_eq_getElem (by omega)] at h5; injection h5 with h5; rw [h5]
              have e2 : l.drop (i - 1) = 118 :: l.drop i := by
                rw [List.drop_eq_getElem_cons (show i - 1 < l.length by omega), show i - 1 + 1 = i by omega]
                rw [List.getElem?_eq_getElem (by omega)] at h4; injection h4 with h4; rw [h4]
              conv => lhs; rw [← List.take_append_drop (i - 2) l, e1, e2]
              simp
            · intro e; have := congrArg List.length e; simp at this; omega
          · exact .inr (.inr (.inr h5))
        · exact .inr (.inr (.inl h4))
      · exact .inr (.inl (by have := hi.1; omega))
    · exact .inl h2
  · have hdd : ∀ x ∈ ds, isDD x = true := fun x hx => by have := hd x hx; unfold isD at this; unfold isDD; simp at this; simp; omega
    have hii : i = (pre ++ [47]).length + 1 := Ends.unique (c := 118) (by decide) hdd (by simpa using hi)
    have hi2 : i = pre.length + 2 := by rw [hii]; simp
    subst hi2
    have hpos := List.length_pos_iff.2 hne
    refine ⟨pre, by simp, ?_⟩
    have e0 : (pre ++ [47, 118] ++ ds).drop (pre.length + 2 - 2) = [47, 118] ++ ds := by simp
    have e1 : (pre ++ [47, 118] ++ ds).take (pre.length + 2 - 2) = pre := by simp
    have e2 : (pre ++ [47, 118] ++ ds).drop (pre.length + 2) = ds := by
      rw [List.drop_append_of_le_length (by simp), List.drop_of_length_le (by simp)]; rfl
    unfold spvAt
    rw [e0, e1, e2, if_neg, if_neg]
    · rintro (h' | h' | h' | h')
      · have := hd 46 (inB_iff.1 h'); revert this; decide
      · simp only [List.length_append, List.length_cons, List.length_nil] at h'; omega
      · exact h0 (by simpa using h')
      · exact h1 (by simpa using h')
    · rintro (h' | h' | h' | h')
      · omega
      · simp only [List.length_append, List.length_cons, List.length_nil] at h'; omega
      · apply h'
        rw [List.append_assoc, List.getElem?_append_right (by omega)]
        simp
      · apply h'
        rw [List.append_assoc, List.getElem?_append_right (by omega)]
        simp

set_option maxHeartbeats 1000000 in
theorem spw_fine (s : ByteArray) (w : World) (hs : s.size ≤ 4294967296) (hf : (splitV s.data.toList).2 = 1) :
    Calls Try.prog 31 #[.string s] w fun e w' => FineE s.data.toList (splitV s.data.toList).1 e ∧ Below w.heap.size w w' := by
  have hR := (splitV_R s.data.toList).2 hf
  generalize (splitV s.data.toList).1 = v at *
  clear hf
  have hm : s.size ≤ maxLen := by unfold maxLen; omega
  rcases hp : gop.isPrefixOf s.data.toList with _ | _
  · rw [hp] at hR
    refine (spv_any s w hs hp).mono ?_
    rintro e w' ⟨⟨i, hi, rfl⟩, hb⟩
    obtain ⟨pre, e1, e2⟩ := spv_plain hR hi
    exact ⟨⟨pre, e1, by rw [e2]⟩, hb⟩
  · rw [hp] at hR
    obtain ⟨pre, ds, hl, hne, hd, h0, rfl⟩ := hR
    have P := fun wx => hasPrefix_any s ⟨#[103, 111, 112, 107, 103, 46, 105, 110, 47]⟩ wx hm (by decide)
    rw [pre9, hp] at P
    have P' := Lib.hid P
    have G := Lib.hid (fun wx => sgo_fine s wx hs hp pre ds hl hne hd h0)
    have HL := Lib.hid hl
    clear P hp hl hne hd h0
    go_enter Try.func31, Try.ntmps31
    go_wp2_with (first | (go_at_call 42; refine (P'.out _).mono ?_; rintro e w' ⟨rfl, rfl⟩) | (go_at_call 43; refine (G.out _).mono ?_; rintro e w' ⟨rfl, hb⟩; have HB := Lib.hid hb; clear hb; unfold trip))
    go_ret3
    exact ⟨⟨pre, by rw [HL.out]; simp, rfl⟩, HB.out⟩

set_option maxHeartbeats 1000000 in
theorem ispw_fine (s : ByteArray) (w : World) (hs : s.size ≤ 4294967296) (hf : (splitV s.data.toList).2 = 1) :
    Calls Try.prog 15 #[.string s] w fun e w' => FineE s.data.toList (splitV s.data.toList).1 e ∧ Below w.heap.size w w' := by
  have G := Lib.hid (fun wx => spw_fine s wx hs hf)
  clear hf
  go_enter Try.func15, Try.ntmps15
  go_wp2_with (go_at_call 31; refine (G.out _).mono ?_; rintro e w' ⟨⟨pre, hpre, rfl⟩, hb⟩; have HB := Lib.hid hb; have HL := Lib.hid hpre; clear hb hpre; unfold trip)
  go_ret3
  exact ⟨⟨pre, HL.out, rfl⟩, HB.out⟩

theorem long_any (s : ByteArray) (w : World) (hs : s.size ≤ maxLen) :
    Calls Try.prog 13 #[.string s] w fun e w' => e = .returned (.bool (decide (500 < s.size))) ∧ w = w' := by
  unfold maxLen at hs
  have E : Hid (decide (500 < s.size) = decide (500 < (s.size : Int))) := Lib.hid (by rw [Bool.eq_iff_iff]; simp; omega)
  go_enter Try.func13, Try.ntmps13
  go_wp2
  go_ret
  exact ⟨ret_bool E.out.symm, rfl⟩

end Go.Proofs.Ytdinaphcglmhoaa
