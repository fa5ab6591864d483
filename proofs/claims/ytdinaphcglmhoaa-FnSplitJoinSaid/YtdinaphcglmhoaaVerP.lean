/-
  A path with a version at its end: plain part.
-/
import Derived.Test.YtdinaphcglmhoaaSpvP
import Derived.Test.YtdinaphcglmhoaaNumP
namespace Go.Proofs.Ytdinaphcglmhoaa
open Go.RowKit

theorem spv_ver {l ds : Bs} (hdd : ∀ x ∈ ds, isDD x = true) (hne : ds ≠ []) {i : Nat} (hi : Ends (l ++ [47, 118] ++ ds) i) :
    spvAt (l ++ [47, 118] ++ ds) i = if inB ds 46 = true ∨ ds[0]? = some 48 ∨ ds = [49] then (l ++ [47, 118] ++ ds, [], false) else (l, [47, 118] ++ ds, true) := by
  have hii : i = (l ++ [47]).length + 1 := Ends.unique (c := 118) (by decide) hdd (by simpa using hi)
  have hi2 : i = l.length + 2 := by rw [hii]; simp
  subst hi2
  have hpos := List.length_pos_iff.2 hne
  have e0 : (l ++ [47, 118] ++ ds).drop (l.length + 2 - 2) = [47, 118] ++ ds := by simp
  have e1 : (l ++ [47, 118] ++ ds).take (l.length + 2 - 2) = l := by simp
  have e2 : (l ++ [47, 118] ++ ds).drop (l.length + 2) = ds := by
    rw [List.drop_append_of_le_length (by simp), List.drop_of_length_le (by simp)]; rfl
  unfold spvAt
  rw [e0, e1, e2, if_neg]
  · have e3 : (inB ds 46 = true ∨ ([47, 118] ++ ds).length ≤ 2 ∨ ([47, 118] ++ ds)[2]? = some 48 ∨ [47, 118] ++ ds = [47, 118, 49]) ↔ (inB ds 46 = true ∨ ds[0]? = some 48 ∨ ds = [49]) := by
      constructor
      · rintro (h' | h' | h' | h')
        · exact .inl h'
        · simp only [List.length_append, List.length_cons, List.length_nil] at h'; omega
        · exact .inr (.inl (by simpa using h'))
        · exact .inr (.inr (by simpa using h'))
      · rintro (h' | h' | h')
        · exact .inl h'
        · exact .inr (.inr (.inl (by simpa using h')))
        · exact .inr (.inr (.inr (by rw [h']; rfl)))
    simp only [e3]
  · rintro (h' | h' | h' | h')
    · omega
    · simp only [List.length_append, List.length_cons, List.length_nil] at h'; omega
    · apply h'
      rw [List.append_assoc, List.getElem?_append_right (by omega)]
      simp
    · apply h'
      rw [List.append_assoc, List.getElem?_append_right (by omega)]
      simp

theorem gop_ver {l : Bs} (h : ¬ (8 ≤ l.length ∧ l.take 8 = [103, 111, 112, 107, 103, 46, 105, 110])) (r : Bs) : gop.isPrefixOf (l ++ 47 :: r) = false := by
  rw [Bool.eq_false_iff]
  intro hp
  rw [List.isPrefixOf_iff_prefix] at hp
  obtain ⟨t, ht⟩ := hp
  have at_ : ∀ j, j < 9 → (l ++ 47 :: r)[j]? = gop[j]? := fun j hj => by rw [← ht, List.getElem?_append_left (by simpa [gop] using hj)]
  rcases Nat.lt_or_ge l.length 8 with h8 | h8
  · have e := at_ l.length (by omega)
    rw [List.getElem?_append_right (Nat.le_refl _)] at e
    simp at e
    match hl : l.length, h8 with
    | 0, _ => rw [hl] at e; simp [gop] at e
    | 1, _ => rw [hl] at e; simp [gop] at e
    | 2, _ => rw [hl] at e; simp [gop] at e
    | 3, _ => rw [hl] at e; simp [gop] at e
    | 4, _ => rw [hl] at e; simp [gop] at e
    | 5, _ => rw [hl] at e; simp [gop] at e
    | 6, _ => rw [hl] at e; simp [gop] at e
    | 7, _ => rw [hl] at e; simp [gop] at e
  · apply h
    refine ⟨h8, ?_⟩
    have e := congrArg (List.take 8) ht
    rw [List.take_append_of_le_length (by simp [gop]), List.take_append_of_le_length h8] at e
    exact e.symm

theorem isD_DD {c : UInt8} (h : isD c = true) : isDD c = true := by unfold isD at h; unfold isDD; simp at h; simp; omega

/-- with a number of two and more -/
theorem ver_num {l : Bs} {m : Nat} (hm : 2 ≤ m) {i : Nat} (hi : Ends (l ++ [47, 118] ++ decL m) i) : spvAt (l ++ [47, 118] ++ decL m) i = (l, [47, 118] ++ decL m, true) := by
  rw [spv_ver (fun x hx => isD_DD (decL_isD m x hx)) (decL_ne m) hi, if_neg]
  rintro (h | h | h)
  · have := decL_isD m 46 (inB_iff.1 h); revert this; decide
  · exact decL_head m (by omega) h
  · exact decL_one hm h
theorem ver_one {l : Bs} {i : Nat} (hi : Ends (l ++ [47, 118] ++ [49]) i) : spvAt (l ++ [47, 118] ++ [49]) i = (l ++ [47, 118] ++ [49], [], false) := by
  rw [spv_ver (by decide) (by simp) hi, if_pos (by simp)]
theorem ver_dots {l : Bs} {i : Nat} (hi : Ends (l ++ [47, 118] ++ [49, 46, 50]) i) : spvAt (l ++ [47, 118] ++ [49, 46, 50]) i = (l ++ [47, 118] ++ [49, 46, 50], [], false) := by
  rw [spv_ver (by decide) (by simp) hi, if_pos (by decide)]

end Go.Proofs.Ytdinaphcglmhoaa
