/-
  module.SplitPathVersion: plain part.
-/
import Derived.Test.YtdinaphcglmhoaaSplitP
namespace Go.Proofs.Ytdinaphcglmhoaa
open Go.RowKit

theorem inB_cons_ne {c b : UInt8} {l : Bs} (h : ¬ (c.toNat : Int) = (b.toNat : Int)) : inB (c :: l) b = inB l b := by
  unfold inB
  have : ¬ b = c := by rintro rfl; exact h rfl
  simp [this]
theorem bool_two' (b : Bool) : b = true ∨ b = false := by cases b <;> simp

/-- the text's end from place i on is figures and dots, and no longer -/
def Ends (l : Bs) (i : Nat) : Prop := i ≤ l.length ∧ (∀ c ∈ l.drop i, isDD c = true) ∧ (i = 0 ∨ ∃ c, l[i - 1]? = some c ∧ isDD c = false)
def EndsD (l : Bs) (i : Nat) : Prop := i ≤ l.length ∧ (∀ c ∈ l.drop i, isD c = true) ∧ (i = 0 ∨ ∃ c, l[i - 1]? = some c ∧ isD c = false)

def spvAt (l : Bs) (i : Nat) : Bs × Bs × Bool :=
  if i ≤ 1 ∨ i = l.length ∨ l[i - 1]? ≠ some 118 ∨ l[i - 2]? ≠ some 47 then (l, [], true)
  else if inB (l.drop i) 46 = true ∨ (l.drop (i - 2)).length ≤ 2 ∨ (l.drop (i - 2))[2]? = some 48 ∨ l.drop (i - 2) = [47, 118, 49] then (l, [], false)
  else (l.take (i - 2), l.drop (i - 2), true)
def sgoAt (l : Bs) (i : Nat) : Bs × Bs × Bool :=
  if i ≤ 1 ∨ l[i - 1]? ≠ some 118 ∨ l[i - 2]? ≠ some 46 then (l, [], false)
  else if (l.drop (i - 2)).length ≤ 2 ∨ ((l.drop (i - 2))[2]? = some 48 ∧ l.drop (i - 2) ≠ [46, 118, 48]) then (l, [], false)
  else (l.take (i - 2), l.drop (i - 2), true)

def trip (r : Bs × Bs × Bool) : Value := .tuple #[.string (tx r.1), .string (tx r.2.1), .bool r.2.2]
def SpvE (l : Bs) (e : Ending) : Prop := ∃ i, Ends l i ∧ e = .returned (trip (spvAt l i))
def SgoE (l : Bs) (e : Ending) : Prop := ∃ i, EndsD l i ∧ e = .returned (trip (sgoAt l i))
theorem SpvE.of {l : Bs} {i : Nat} (h : Ends l i) {a b : ByteArray} {c : Bool} (e : spvAt l i = (a.data.toList, b.data.toList, c)) : SpvE l (.returned (.tuple #[.string a, .string b, .bool c])) :=
  ⟨i, h, by unfold trip; rw [e, tx_of, tx_of]⟩
theorem SgoE.of {l : Bs} {i : Nat} (h : EndsD l i) {a b : ByteArray} {c : Bool} (e : sgoAt l i = (a.data.toList, b.data.toList, c)) : SgoE l (.returned (.tuple #[.string a, .string b, .bool c])) :=
  ⟨i, h, by unfold trip; rw [e, tx_of, tx_of]⟩

theorem drop_step (s : ByteArray) (k : Nat) (hk : k < s.size) : s.data.toList.drop k = s[k] :: s.data.toList.drop (k + 1) := by
  rw [List.drop_eq_getElem_cons (by simpa using hk)]; rfl

/-- where the end begins is told by what stands there -/
theorem Ends.unique {pre ds : Bs} {c : UInt8} (hc : isDD c = false) (hd : ∀ x ∈ ds, isDD x = true) {i : Nat} (h : Ends (pre ++ c :: ds) i) : i = pre.length + 1 := by
  obtain ⟨h1, h2, h3⟩ := h
  rcases Nat.lt_trichotomy i (pre.length + 1) with hlt | heq | hgt
  · exfalso
    have hm : c ∈ (pre ++ c :: ds).drop i := by
      rw [List.drop_append_of_le_length (by omega)]
      simp
    rw [h2 c hm] at hc; cases hc
  · exact heq
  · exfalso
    rcases h3 with h3 | ⟨x, h3, h4⟩
    · omega
    · have hm : x ∈ ds := by
        rw [List.getElem?_append_right (by omega)] at h3
        have e : i - 1 - pre.length = (i - 1 - pre.length - 1) + 1 := by omega
        rw [e, List.getElem?_cons_succ] at h3
        exact List.mem_of_getElem? h3
      rw [hd x hm] at h4; cases h4
theorem EndsD.unique {pre ds : Bs} {c : UInt8} (hc : isD c = false) (hd : ∀ x ∈ ds, isD x = true) {i : Nat} (h : EndsD (pre ++ c :: ds) i) : i = pre.length + 1 := by
  obtain ⟨h1, h2, h3⟩ := h
  rcases Nat.lt_trichotomy i (pre.length + 1) with hlt | heq | hgt
  · exfalso
    have hm : c ∈ (pre ++ c :: ds).drop i := by
      rw [List.drop_append_of_le_length (by omega)]
      simp
    rw [h2 c hm] at hc; cases hc
  · exact heq
  · exfalso
    rcases h3 with h3 | ⟨x, h3, h4⟩
    · omega
    · have hm : x ∈ ds := by
        rw [List.getElem?_append_right (by omega)] at h3
        have e : i - 1 - pre.length = (i - 1 - pre.length - 1) + 1 := by omega
        rw [e, List.getElem?_cons_succ] at h3
        exact List.mem_of_getElem? h3
      rw [hd x hm] at h4; cases h4

end Go.Proofs.Ytdinaphcglmhoaa
