/-
  What stands behind - and +: plain part.
-/
import Derived.Test.YtdinaphcglmhoaaSemP
namespace Go.Proofs.Ytdinaphcglmhoaa
open Go.RowKit

theorem cutL_app2 (x r : Bs) (b : UInt8) : cutL (x ++ b :: r) b = cutL x b ++ cutL r b := by
  induction x with
  | nil => simp [cutL]
  | cons c t ih =>
    simp only [List.cons_append, cutL, ih]
    split
    · rfl
    · cases h : cutL t b with
      | nil => exact absurd h (cutL_ne t b)
      | cons y z => rfl
theorem cutL_mem {x : Bs} {b c : UInt8} (h : c ∈ x) (hc : c ≠ b) : ∃ p ∈ cutL x b, c ∈ p := by
  induction x with
  | nil => cases h
  | cons d t ih =>
    simp only [cutL]
    rcases List.mem_cons.1 h with rfl | h
    · rw [if_neg hc]
      cases ht : cutL t b with
      | nil => exact absurd ht (cutL_ne t b)
      | cons y z => exact ⟨_, List.mem_cons_self, by simp⟩
    · obtain ⟨p, hp, hm⟩ := ih h
      split
      · exact ⟨p, List.mem_cons_of_mem _ hp, hm⟩
      · cases ht : cutL t b with
        | nil => exact absurd ht (cutL_ne t b)
        | cons y z =>
          rw [ht] at hp
          rcases List.mem_cons.1 hp with rfl | hp
          · exact ⟨_, List.mem_cons_self, List.mem_cons_of_mem _ hm⟩
          · exact ⟨p, List.mem_cons_of_mem _ hp, hm⟩
theorem parts_bad_char {x : Bs} {c : UInt8} {st : Bool} (h : c ∈ x) (h46 : c ≠ 46) (hb : idB c = false) : partsB x st = false := by
  obtain ⟨p, hp, hm⟩ := cutL_mem h h46
  unfold partsB
  rw [List.all_eq_false]
  refine ⟨p, hp, ?_⟩
  unfold pieceB
  have : allB p true true [45] = false := allB_false hm hb
  rw [this]; simp

/-- what is known of the pieces when x has been read, cur its last piece so far -/
def PreInv (st : Bool) (x cur : Bs) : Prop := ∃ outs, cutL x 46 = outs ++ [cur] ∧ outs.all (pieceB st) = true ∧ allB cur true true [45] = true
theorem PreInv.start (st : Bool) : PreInv st [] [] := ⟨[], rfl, rfl, rfl⟩
theorem PreInv.ident {st : Bool} {x cur : Bs} {c : UInt8} (h : PreInv st x cur) (hc : c ≠ 46) (hi : idB c = true) : PreInv st (x ++ [c]) (cur ++ [c]) := by
  obtain ⟨outs, h1, h2, h3⟩ := h
  exact ⟨outs, cutL_miss _ _ _ hc _ _ h1, h2, allB_snoc h3 hi⟩
theorem PreInv.dot {st : Bool} {x cur : Bs} (h : PreInv st x cur) (hp : pieceB st cur = true) : PreInv st (x ++ [46]) [] := by
  obtain ⟨outs, h1, h2, h3⟩ := h
  refine ⟨outs ++ [cur], by rw [cutL_hit, h1], ?_, rfl⟩
  rw [List.all_append, h2]; simp [hp]
theorem PreInv.fin {st : Bool} {x cur : Bs} (h : PreInv st x cur) : partsB x st = pieceB st cur := by
  obtain ⟨outs, h1, h2, h3⟩ := h
  unfold partsB
  rw [h1, List.all_append, h2]; simp
theorem PreInv.dot_bad {st : Bool} {x cur : Bs} (h : PreInv st x cur) (hp : pieceB st cur = false) (r : Bs) : partsB (x ++ 46 :: r) st = false := by
  obtain ⟨outs, h1, h2, h3⟩ := h
  unfold partsB
  rw [cutL_app2, h1, List.all_append, List.all_append]; simp [hp]
theorem PreInv.piece {st : Bool} {x cur : Bs} (h : PreInv st x cur) (hne : cur ≠ []) : pieceB st cur = !(st && badB cur) := by
  obtain ⟨outs, h1, h2, h3⟩ := h
  unfold pieceB
  rw [h3, badB_eq]
  cases cur with
  | nil => exact absurd rfl hne
  | cons c r => simp
theorem piece_nil (st : Bool) : pieceB st [] = false := rfl

def np (c : UInt8) : Bool := !isPlus c
theorem np_iff {c : UInt8} : np c = true ↔ c ≠ 43 := by unfold np isPlus; simp
theorem spanPre_eq (l : Bs) : spanPre l = if partsB ((l.drop 1).takeWhile np) true then some (45 :: (l.drop 1).takeWhile np, (l.drop 1).dropWhile np) else none := rfl

/-- the text behind the first byte, parted at place k -/
theorem body_at (s : ByteArray) (k : Nat) (hk1 : 1 ≤ k) : s.data.toList.drop 1 = (s.data.toList.drop 1).take (k - 1) ++ s.data.toList.drop k := by
  conv => lhs; rw [← List.take_append_drop (k - 1) (s.data.toList.drop 1)]
  rw [List.drop_drop, show 1 + (k - 1) = k from by omega]
theorem body_snoc (s : ByteArray) (k : Nat) (hk1 : 1 ≤ k) (hk : k < s.size) : (s.data.toList.drop 1).take (k + 1 - 1) = (s.data.toList.drop 1).take (k - 1) ++ [s[k]] := by
  rw [show k + 1 - 1 = (k - 1) + 1 from by omega, List.take_succ_eq_append_getElem (by simp; omega)]
  congr 2
  rw [List.getElem_drop]
  have : s[k] = s.data.toList[k]'(by simpa using hk) := rfl
  rw [this]
  congr 1; omega

theorem drop_cons (s : ByteArray) (k : Nat) (hk : k < s.size) : s.data.toList.drop k = s[k] :: s.data.toList.drop (k + 1) := by
  rw [List.drop_eq_getElem_cons (by simpa using hk)]; rfl

end Go.Proofs.Ytdinaphcglmhoaa
