/-
  module.CheckPathMajor and spec.Major as plain functions; what the one says is what the other says, where that says something.
-/
import Derived.Test.YtdinaphcglmhoaaFmtMaj
import Derived.Test.YtdinaphcglmhoaaFmtCanonP
import Derived.Test.YtdinaphcglmhoaaFmtStr
namespace Go.Proofs.YtdinaphcglmhoaaFmt
open Go.RowKit

def unstL : Bs := [45, 117, 110, 115, 116, 97, 98, 108, 101]
def incF : Bs := [43, 105, 110, 99, 111, 109, 112, 97, 116, 105, 98, 108, 101]
def v000 : Bs := [118, 48, 46, 48, 46, 48, 45]
def trimM (m : Bs) : Bs := if preB [46, 118] m = true ∧ sufB unstL m = true then m.take (m.length - 9) else m
def cpmRest (v pm : Bs) : Bool :=
  (preB v000 v && (pm == [46, 118, 49])) ||
    (if pm = [] then majV v == [118, 48] || (majV v == [118, 49] || bldOf v == incF) else (pm[0]? == some 47 || pm[0]? == some 46) && (majV v == pm.drop 1))
def cpmB (v m : Bs) : Bool := cpmRest v (trimM m)

def majOpen (m : Bs) : Prop := m.length < 3 ∨ m[1]? ≠ some 118 ∨ numB (m.drop 2) = false ∨ (m[0]? ≠ some 47 ∧ m[0]? ≠ some 46) ∨ (m[0]? = some 47 ∧ (m = [47, 118, 48] ∨ m = [47, 118, 49]))
instance (m : Bs) : Decidable (majOpen m) := by unfold majOpen; infer_instance
def majR (v m : Bs) (x : Rv) : Int :=
    if m = [] then (if x.plus = incF then 0 else if x.n0 = [48] ∨ x.n0 = [49] then 1 else 2)
    else if majOpen m then 0
    else if x.plus = incF then 0
    else if m = [46, 118, 49] ∧ 7 < v.length ∧ v.take 7 = v000 then 1
    else if x.n0 = m.drop 2 then 1 else 2
def majS (v m : Bs) : Int := match readV v with
  | none => 0
  | some x => majR v m x

theorem suf_last {m : Bs} {c : UInt8} (h : m.getLast? = some c) (hc : c ≠ 101) : sufB unstL m = false := by
  cases hs : sufB unstL m with
  | false => rfl
  | true =>
    exfalso
    unfold sufB at hs
    rw [Bool.and_eq_true, decide_eq_true_eq, beq_iff_eq] at hs
    obtain ⟨hl, he⟩ := hs
    have e : m = m.take (m.length - unstL.length) ++ unstL :=
      (List.take_append_drop (m.length - unstL.length) m).symm.trans (by rw [he])
    rw [e, List.getLast?_append] at h
    have : unstL.getLast? = some 101 := rfl
    rw [this] at h
    simp at h
    exact hc h.symm
theorem numB_last {l : Bs} (h : numB l = true) : ∃ c, l.getLast? = some c ∧ c ≠ 101 := by
  unfold numB at h
  rw [Bool.and_eq_true] at h
  obtain ⟨hne, hall⟩ := digB_iff.1 h.1
  obtain ⟨c, hc⟩ : ∃ c, l.getLast? = some c := ⟨_, List.getLast?_eq_some_getLast hne⟩
  refine ⟨c, hc, ?_⟩
  have := hall c (List.mem_of_getLast? hc)
  rintro rfl
  revert this; decide
theorem majV_read {v : Bs} {x : Rv} (h : readV v = some x) : majV v = 118 :: x.n0 ∧ bldOf v = x.plus := by
  have hp := read_parse v
  rw [h] at hp
  have hp' : parseV v = some (toSv x) := hp
  unfold majV bldOf
  rw [hp']
  exact ⟨(dec_major hp').2, rfl⟩
theorem read_v000 : readV v000 = none := by decide
theorem trim_keep {m : Bs} (h : ¬ majOpen m) : trimM m = m := by
  unfold trimM
  rw [if_neg]
  rintro ⟨_, hs⟩
  unfold majOpen at h
  have hl : ¬ m.length < 3 := fun e => h (.inl e)
  have hn : numB (m.drop 2) = true := by
    cases e : numB (m.drop 2) with
    | true => rfl
    | false => exact absurd (Or.inr (Or.inr (Or.inl e))) h
  obtain ⟨c, hc, hne⟩ := numB_last hn
  have : m.getLast? = some c := by
    rw [List.getLast?_drop] at hc
    rw [if_neg (by omega)] at hc
    exact hc
  rw [suf_last this hne] at hs
  cases hs
theorem trim_nil : trimM [] = [] := by decide

/-- THE PLAIN LAW -/
theorem major_told (v m : Bs) : majS v m = 0 ∨ cpmB v m = decide (majS v m = 1) := by
  obtain ⟨k, hk⟩ : ∃ k, majS v m = k := ⟨_, rfl⟩
  rw [hk]
  unfold majS at hk
  cases hr : readV v with
  | none => rw [hr] at hk; exact .inl hk.symm
  | some x =>
    rw [hr] at hk
    have hk : majR v m x = k := hk
    unfold majR at hk
    obtain ⟨hM, hB⟩ := majV_read hr
    by_cases h0 : m = []
    · subst h0
      rw [if_pos rfl] at hk
      by_cases hi : x.plus = incF
      · rw [if_pos hi] at hk; exact .inl hk.symm
      · rw [if_neg hi] at hk
        right
        unfold cpmB
        rw [trim_nil]
        unfold cpmRest
        rw [if_pos rfl, hM, hB]
        have e1 : (x.plus == incF) = false := by simpa using hi
        have e2 : (([] : Bs) == [46, 118, 49]) = false := rfl
        rw [e1, e2, Bool.and_false, Bool.false_or]
        by_cases ha : x.n0 = [48]
        · rw [if_pos (.inl ha)] at hk; subst hk; rw [ha]; rfl
        · by_cases hb : x.n0 = [49]
          · rw [if_pos (.inr hb)] at hk; subst hk; rw [hb]; rfl
          · rw [if_neg (by rintro (h | h); exact ha h; exact hb h)] at hk; subst hk
            have ea : ((118 :: x.n0) == [118, 48]) = false := by simpa using ha
            have eb : ((118 :: x.n0) == [118, 49]) = false := by simpa using hb
            rw [ea, eb]; rfl
    · rw [if_neg h0] at hk
      by_cases ho : majOpen m
      · rw [if_pos ho] at hk; exact .inl hk.symm
      · rw [if_neg ho] at hk
        by_cases hi : x.plus = incF
        · rw [if_pos hi] at hk; exact .inl hk.symm
        · rw [if_neg hi] at hk
          right
          unfold cpmB
          rw [trim_keep ho]
          unfold cpmRest
          rw [if_neg h0, hM]
          have hsl : (m[0]? == some 47 || m[0]? == some 46) = true := by
            unfold majOpen at ho
            by_cases h47 : m[0]? = some 47
            · simp [h47]
            · by_cases h46 : m[0]? = some 46
              · simp [h46]
              · exact absurd (Or.inr (Or.inr (Or.inr (Or.inl ⟨h47, h46⟩)))) ho
          rw [hsl, Bool.true_and]
          have h1 : m[1]? = some 118 := by
            unfold majOpen at ho
            by_cases e : m[1]? = some 118
            · exact e
            · exact absurd (Or.inr (Or.inl e)) ho
          have hd : m.drop 1 = 118 :: m.drop 2 := by
            match m, h1 with
            | a :: b :: r, h1 => simp at h1; subst h1; rfl
          rw [hd]
          have hcmp : ((118 :: x.n0) == (118 :: m.drop 2)) = decide (x.n0 = m.drop 2) := by
            rw [Bool.eq_iff_iff]; simp
          rw [hcmp]
          by_cases hp : m = [46, 118, 49] ∧ 7 < v.length ∧ v.take 7 = v000
          · rw [if_pos hp] at hk; subst hk
            obtain ⟨a, b, c⟩ := hp
            have : preB v000 v = true := by
              unfold preB
              rw [Bool.and_eq_true, decide_eq_true_eq, beq_iff_eq]
              exact ⟨by show 7 ≤ _; omega, c⟩
            rw [this, a]; rfl
          · rw [if_neg hp] at hk
            have hz : (preB v000 v && (m == [46, 118, 49])) = false := by
              rw [Bool.and_eq_false_iff]
              by_cases a : m = [46, 118, 49]
              · left
                cases hq : preB v000 v with
                | false => rfl
                | true =>
                  exfalso
                  unfold preB at hq
                  rw [Bool.and_eq_true, decide_eq_true_eq, beq_iff_eq] at hq
                  obtain ⟨q1, q2⟩ := hq
                  have q1 : 7 ≤ v.length := q1
                  have q2 : v.take 7 = v000 := q2
                  by_cases h7 : 7 < v.length
                  · exact hp ⟨a, h7, q2⟩
                  · have : v = v000 := by rw [← q2, List.take_of_length_le (by omega)]
                    rw [this, read_v000] at hr
                    cases hr
              · right; simpa using a
            rw [hz, Bool.false_or]
            by_cases e : x.n0 = m.drop 2
            · rw [if_pos e] at hk; subst hk; rw [decide_eq_true e]; rfl
            · rw [if_neg e] at hk; subst hk; rw [decide_eq_false e]; rfl
end Go.Proofs.YtdinaphcglmhoaaFmt
