/-
  Semantic versions: plain part: the pieces that package semver and the reference read.
-/
import Derived.Test.YtdinaphcglmhoaaSplitP
namespace Go.Proofs.Ytdinaphcglmhoaa
open Go.RowKit

theorem bool_or (b : Bool) : b = true ∨ b = false := by cases b <;> simp
/-- a number without needless noughts, of figures alone -/
def numB (l : Bs) : Bool := digB l && (decide (l.length = 1) || (l[0]? != some 48))
def badB (l : Bs) : Bool := l.all isD && (decide (1 < l.length) && (l[0]? == some 48))
def idB (c : UInt8) : Bool := okB true true [45] c
def pieceB (strict : Bool) (x : Bs) : Bool := !x.isEmpty && (allB x true true [45] && !(strict && (digB x && !numB x)))
def partsB (l : Bs) (strict : Bool) : Bool := (cutL l 46).all (pieceB strict)

theorem digB_eq (l : Bs) : digB l = (!l.isEmpty && l.all isD) := by
  unfold digB allB
  congr 1
  have : okB false false [] = isD := funext fun c => okD
  rw [this]
theorem digB_iff {l : Bs} : digB l = true ↔ l ≠ [] ∧ ∀ c ∈ l, isD c = true := by
  rw [digB_eq]; simp
theorem badB_eq {l : Bs} : badB l = (digB l && !numB l) := by
  rw [Bool.eq_iff_iff]
  unfold badB numB
  simp only [Bool.and_eq_true, List.all_eq_true, decide_eq_true_eq, beq_iff_eq, Bool.not_eq_true', Bool.and_eq_false_iff, Bool.or_eq_false_iff, decide_eq_false_iff_not, bne_eq_false_iff_eq]
  constructor
  · rintro ⟨h1, h2, h3⟩
    have hd : digB l = true := digB_iff.2 ⟨by rintro rfl; simp at h2, h1⟩
    exact ⟨hd, .inr ⟨by omega, h3⟩⟩
  · rintro ⟨h1, h2⟩
    obtain ⟨h3, h4⟩ := digB_iff.1 h1
    rcases h2 with h2 | ⟨h2, h5⟩
    · rw [h1] at h2; cases h2
    · have := List.length_pos_iff.2 h3
      exact ⟨h4, by omega, h5⟩

/-- parseInt -/
def spanI (l : Bs) : Option (Bs × Bs) := if numB (l.takeWhile isD) then some (l.takeWhile isD, l.dropWhile isD) else none
def isPlus (c : UInt8) : Bool := c == 43
/-- parsePrerelease, at a text that begins with - -/
def spanPre (l : Bs) : Option (Bs × Bs) :=
  let x := (l.drop 1).takeWhile fun c => !isPlus c
  if partsB x true then some (45 :: x, (l.drop 1).dropWhile fun c => !isPlus c) else none
/-- parseBuild, at a text that begins with + -/
def spanBuild (l : Bs) : Option (Bs × Bs) := if partsB (l.drop 1) false then some (l, []) else none

theorem takeWhile_at {p : UInt8 → Bool} {l : Bs} {k : Nat} (h1 : ∀ c ∈ l.take k, p c = true) (h2 : k = l.length ∨ ∃ c, l[k]? = some c ∧ p c = false) : l.takeWhile p = l.take k ∧ l.dropWhile p = l.drop k := by
  have e : l = l.take k ++ l.drop k := (List.take_append_drop k l).symm
  have hd : (l.drop k).takeWhile p = [] ∧ (l.drop k).dropWhile p = l.drop k := by
    rcases h2 with h2 | ⟨c, hc, hp⟩
    · rw [List.drop_of_length_le (by omega)]; simp
    · have hk : k < l.length := (List.getElem?_eq_some_iff.1 hc).1
      rw [List.getElem?_eq_getElem hk] at hc; injection hc with hc
      rw [List.drop_eq_getElem_cons hk, hc]
      simp [hp]
  constructor
  · conv => lhs; rw [e]
    rw [List.takeWhile_append_of_pos h1, hd.1, List.append_nil]
  · conv => lhs; rw [e]
    rw [List.dropWhile_append_of_pos h1, hd.2]

def two (a b : Bs) : Value := .tuple #[.string (tx a), .string (tx b), .bool true]
/-- what the three readers hand back -/
def OptE (r : Option (Bs × Bs)) (e : Ending) : Prop := e = .returned (match r with | some q => two q.1 q.2 | none => .tuple #[.string ⟨#[]⟩, .string ⟨#[]⟩, .bool false])
theorem OptE.no {r : Option (Bs × Bs)} (h : r = none) : OptE r (.returned (.tuple #[.string ⟨#[]⟩, .string ⟨#[]⟩, .bool false])) := by unfold OptE; rw [h]
theorem OptE.yes {r : Option (Bs × Bs)} {a b : ByteArray} (h : r = some (a.data.toList, b.data.toList)) : OptE r (.returned (.tuple #[.string a, .string b, .bool true])) := by
  unfold OptE; rw [h]; simp only [two, tx_of]

end Go.Proofs.Ytdinaphcglmhoaa
