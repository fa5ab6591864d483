/-
  spec.Read: plain part; its two structs in memory.
-/
import Derived.Test.YtdinaphcglmhoaaDecP
import Derived.Test.YtdinaphcglmhoaaCutP
namespace Go.Proofs.Ytdinaphcglmhoaa
open Go.RowKit

structure Rv where
  n0 : Bs
  n1 : Bs
  n2 : Bs
  pre : Bs
  plus : Bs
  told : Nat

def nd (c : UInt8) : Bool := !(c == 45)
def readL (L : List Bs) (pre plus : Bs) : Option Rv :=
  if 3 < L.length ∨ (L.length < 3 ∧ (pre ≠ [] ∨ plus ≠ [])) ∨ (pre ≠ [] ∧ partsB (pre.drop 1) true = false) ∨ (plus ≠ [] ∧ partsB (plus.drop 1) false = false) then none
  else if L.all numB = true then some ⟨L.getD 0 [48], L.getD 1 [48], L.getD 2 [48], pre, plus, L.length⟩ else none
def readV (l : Bs) : Option Rv :=
  if l[0]? = some 118 then
    readL (cutL (((l.drop 1).takeWhile np).takeWhile nd) 46) (((l.drop 1).takeWhile np).dropWhile nd) ((l.drop 1).dropWhile np)
  else none

def rvAgg (a b c d e : ByteArray) (k : Int) : Value := .agg #[.string a, .string b, .string c, .string d, .string e, .int .i64 k]
def RvE (r : Option Rv) (e : Ending) : Prop := match r with
  | some p => e = .returned (.tuple #[rvAgg (tx p.n0) (tx p.n1) (tx p.n2) (tx p.pre) (tx p.plus) p.told, .bool true])
  | none => ∃ (a b c d f : ByteArray) (k : Int), e = .returned (.tuple #[rvAgg a b c d f k, .bool false])
theorem RvE.no {r : Option Rv} (h : r = none) (a b c d f : ByteArray) (k : Int) : RvE r (.returned (.tuple #[rvAgg a b c d f k, .bool false])) := by rw [h]; exact ⟨a, b, c, d, f, k, rfl⟩

/-- The two blocks: the named result's, at nought; the struct v. -/
structure RS (w0 w : World) (t : TypeId) (a0 a1 a2 a3 a4 : ByteArray) (k : Int) : Prop where
  below : Below w0.heap.size w0 w
  blk0 : w.heap[w0.heap.size]? = some (.cells #[.string ⟨#[]⟩, .string ⟨#[]⟩, .string ⟨#[]⟩, .string ⟨#[]⟩, .string ⟨#[]⟩, .int .i64 0] t (0, 0))
  blk1 : w.heap[w0.heap.size + 1]? = some (.cells #[.string a0, .string a1, .string a2, .string a3, .string a4, .int .i64 k] t (0, 0))

section
variable {w0 w w' : World} {t : TypeId} {a0 a1 a2 a3 a4 : ByteArray} {k : Int}
theorem RS.lt (h : RS w0 w t a0 a1 a2 a3 a4 k) : w0.heap.size + 1 < w.heap.size := by
  rcases Nat.lt_or_ge (w0.heap.size + 1) w.heap.size with hlt | hge
  · exact hlt
  · have := h.blk1; rw [Array.getElem?_eq_none hge] at this; cases this
theorem RS.cells1 (h : RS w0 w t a0 a1 a2 a3 a4 k) : w.cell? ⟨w0.heap.size + 1, 0, none⟩ = some (.string a0) ∧ w.cell? ⟨w0.heap.size + 1, 1, none⟩ = some (.string a1) ∧ w.cell? ⟨w0.heap.size + 1, 2, none⟩ = some (.string a2) ∧
    w.cell? ⟨w0.heap.size + 1, 3, none⟩ = some (.string a3) ∧ w.cell? ⟨w0.heap.size + 1, 4, none⟩ = some (.string a4) ∧ w.cell? ⟨w0.heap.size + 1, 5, none⟩ = some (.int .i64 k) :=
  ⟨cell_of_row w _ 0 _ t (0, 0) h.blk1, cell_of_row w _ 1 _ t (0, 0) h.blk1, cell_of_row w _ 2 _ t (0, 0) h.blk1, cell_of_row w _ 3 _ t (0, 0) h.blk1, cell_of_row w _ 4 _ t (0, 0) h.blk1, cell_of_row w _ 5 _ t (0, 0) h.blk1⟩
theorem RS.cells0 (h : RS w0 w t a0 a1 a2 a3 a4 k) : w.cell? ⟨w0.heap.size, 0, none⟩ = some (.string ⟨#[]⟩) ∧ w.cell? ⟨w0.heap.size, 1, none⟩ = some (.string ⟨#[]⟩) ∧ w.cell? ⟨w0.heap.size, 2, none⟩ = some (.string ⟨#[]⟩) ∧
    w.cell? ⟨w0.heap.size, 3, none⟩ = some (.string ⟨#[]⟩) ∧ w.cell? ⟨w0.heap.size, 4, none⟩ = some (.string ⟨#[]⟩) ∧ w.cell? ⟨w0.heap.size, 5, none⟩ = some (.int .i64 0) :=
  ⟨cell_of_row w _ 0 _ t (0, 0) h.blk0, cell_of_row w _ 1 _ t (0, 0) h.blk0, cell_of_row w _ 2 _ t (0, 0) h.blk0, cell_of_row w _ 3 _ t (0, 0) h.blk0, cell_of_row w _ 4 _ t (0, 0) h.blk0, cell_of_row w _ 5 _ t (0, 0) h.blk0⟩
theorem RS.free1 (h : RS w0 w t a0 a1 a2 a3 a4 k) (i : Nat) : w.frozen? ⟨w0.heap.size + 1, i, none⟩ = false := by
  have := h.blk1
  simp [World.frozen?, this]
theorem RS.free0 (h : RS w0 w t a0 a1 a2 a3 a4 k) (i : Nat) : w.frozen? ⟨w0.heap.size, i, none⟩ = false := by
  have := h.blk0
  simp [World.frozen?, this]
theorem RS.call (h : RS w0 w t a0 a1 a2 a3 a4 k) (hb : Below w.heap.size w w') : RS w0 w' t a0 a1 a2 a3 a4 k :=
  ⟨below_tr h.below hb, (hb.block _ (by have := h.lt; omega)).trans h.blk0, (hb.block _ h.lt).trans h.blk1⟩
theorem RS.drew (h : RS w0 w t a0 a1 a2 a3 a4 k) : RS w0 w.drew t a0 a1 a2 a3 a4 k := ⟨h.below.drew, h.blk0, h.blk1⟩
theorem RS.set_ (h : RS w0 w t a0 a1 a2 a3 a4 k) (i : Nat) (v : Value) : (w.setCell ⟨w0.heap.size + 1, i, none⟩ v).heap[w0.heap.size + 1]? = some (.cells ((#[.string a0, .string a1, .string a2, .string a3, .string a4, .int .i64 k] : Array Value).setIfInBounds i v) t (0, 0)) ∧
    (w.setCell ⟨w0.heap.size + 1, i, none⟩ v).heap[w0.heap.size]? = some (.cells #[.string ⟨#[]⟩, .string ⟨#[]⟩, .string ⟨#[]⟩, .string ⟨#[]⟩, .string ⟨#[]⟩, .int .i64 0] t (0, 0)) := by
  have h1 := h.blk1
  have h0 := h.blk0
  constructor
  · simp [World.setCell, Array.getElem?_modify, h1]
  · simp [World.setCell, Array.getElem?_modify, h0]
theorem RS.set0 (h : RS w0 w t a0 a1 a2 a3 a4 k) (b : ByteArray) : RS w0 (w.setCell ⟨w0.heap.size + 1, 0, none⟩ (.string b)) t b a1 a2 a3 a4 k := ⟨h.below.setCell (by show w0.heap.size ≤ w0.heap.size + 1; omega) _, (h.set_ 0 _).2, (h.set_ 0 _).1⟩
theorem RS.set1 (h : RS w0 w t a0 a1 a2 a3 a4 k) (b : ByteArray) : RS w0 (w.setCell ⟨w0.heap.size + 1, 1, none⟩ (.string b)) t a0 b a2 a3 a4 k := ⟨h.below.setCell (by show w0.heap.size ≤ w0.heap.size + 1; omega) _, (h.set_ 1 _).2, (h.set_ 1 _).1⟩
theorem RS.set2 (h : RS w0 w t a0 a1 a2 a3 a4 k) (b : ByteArray) : RS w0 (w.setCell ⟨w0.heap.size + 1, 2, none⟩ (.string b)) t a0 a1 b a3 a4 k := ⟨h.below.setCell (by show w0.heap.size ≤ w0.heap.size + 1; omega) _, (h.set_ 2 _).2, (h.set_ 2 _).1⟩
theorem RS.set3 (h : RS w0 w t a0 a1 a2 a3 a4 k) (b : ByteArray) : RS w0 (w.setCell ⟨w0.heap.size + 1, 3, none⟩ (.string b)) t a0 a1 a2 b a4 k := ⟨h.below.setCell (by show w0.heap.size ≤ w0.heap.size + 1; omega) _, (h.set_ 3 _).2, (h.set_ 3 _).1⟩
theorem RS.set4 (h : RS w0 w t a0 a1 a2 a3 a4 k) (b : ByteArray) : RS w0 (w.setCell ⟨w0.heap.size + 1, 4, none⟩ (.string b)) t a0 a1 a2 a3 b k := ⟨h.below.setCell (by show w0.heap.size ≤ w0.heap.size + 1; omega) _, (h.set_ 4 _).2, (h.set_ 4 _).1⟩
theorem RS.set5 (h : RS w0 w t a0 a1 a2 a3 a4 k) (n : Int) : RS w0 (w.setCell ⟨w0.heap.size + 1, 5, none⟩ (.int .i64 n)) t a0 a1 a2 a3 a4 n := ⟨h.below.setCell (by show w0.heap.size ≤ w0.heap.size + 1; omega) _, (h.set_ 5 _).2, (h.set_ 5 _).1⟩
theorem RS.end6 (h : RS w0 w t a0 a1 a2 a3 a4 k) (v0 v1 v2 v3 v4 v5 : Value) : Below w0.heap.size w0 ((((((w.setCell ⟨w0.heap.size, 0, none⟩ v0).setCell ⟨w0.heap.size, 1, none⟩ v1).setCell ⟨w0.heap.size, 2, none⟩ v2).setCell ⟨w0.heap.size, 3, none⟩ v3).setCell ⟨w0.heap.size, 4, none⟩ v4).setCell ⟨w0.heap.size, 5, none⟩ v5) :=
  (((((h.below.setCell (Nat.le_refl _) _).setCell (Nat.le_refl _) _).setCell (Nat.le_refl _) _).setCell (Nat.le_refl _) _).setCell (Nat.le_refl _) _).setCell (Nat.le_refl _) _
theorem RS.new (w : World) (t : TypeId) (a0 a1 a2 a3 a4 : ByteArray) (k : Int) : RS w ((w.alloc (.cells #[.string ⟨#[]⟩, .string ⟨#[]⟩, .string ⟨#[]⟩, .string ⟨#[]⟩, .string ⟨#[]⟩, .int .i64 0] t)).alloc (.cells #[.string a0, .string a1, .string a2, .string a3, .string a4, .int .i64 k] t)) t a0 a1 a2 a3 a4 k := by
  refine ⟨below_al (below_al (Below.refl _ _) _) _, ?_, ?_⟩
  · rw [Below.heap_alloc _ _ _ (by simp)]
    exact heap_alloc_new w _
  · have := heap_alloc_new (w.alloc (.cells #[.string ⟨#[]⟩, .string ⟨#[]⟩, .string ⟨#[]⟩, .string ⟨#[]⟩, .string ⟨#[]⟩, .int .i64 0] t)) (.cells #[.string a0, .string a1, .string a2, .string a3, .string a4, .int .i64 k] t)
    simpa using this
end

theorem gt_ne {a b g : Nat} (h : a + 1 < b) (h2 : b ≤ g) : g ≠ a + 1 := by omega
theorem nonempty_str {s : ByteArray} (h : 0 < s.size) : s.toList.isEmpty = false := by
  rw [Lib.toList_data]; cases e : s.data.toList with
  | nil => exfalso; rw [← size_len, e] at h; exact Nat.lt_irrefl 0 h
  | cons => rfl
theorem empty_str {s : ByteArray} (h : s.toList.isEmpty = true) : s.data.toList = [] := by rw [Lib.toList_data, List.isEmpty_iff] at h; exact h
theorem ne_str {s : ByteArray} (h : 0 < s.size) : s.data.toList ≠ [] := by
  intro e; rw [← size_len, e] at h; exact Nat.lt_irrefl 0 h
theorem cat_empty {a b : ByteArray} (h1 : a.toList.isEmpty = true) (h2 : b.toList.isEmpty = true) : (a ++ b).toList.isEmpty = true := by
  rw [Lib.toList_data, List.isEmpty_iff]; simp only [ByteArray.data_append, Array.toList_append, empty_str h1, empty_str h2, List.append_nil]
theorem cat_l {a b : ByteArray} (h1 : 0 < a.size) : (a ++ b).toList.isEmpty = false := nonempty_str (by simp; omega)
theorem cat_r {a b : ByteArray} (h1 : 0 < b.size) : (a ++ b).toList.isEmpty = false := nonempty_str (by simp; omega)

def getU (L : List Bs) (k j : Nat) : Bs := if j < k then L.getD j [48] else [48]
theorem getU_all (L : List Bs) (j : Nat) : getU L L.length j = L.getD j [48] := by
  unfold getU
  split
  · rfl
  · rename_i h
    simp only [List.getD, List.getElem?_eq_none (show L.length ≤ j by omega), Option.getD_none]
theorem getU_at {L : List Bs} {k : Nat} (hk : k < L.length) : getU L (k + 1) k = L[k] := by
  unfold getU
  rw [if_pos (by omega)]; simp only [List.getD, List.getElem?_eq_getElem hk, Option.getD_some]
theorem getU_lt {L : List Bs} {k j : Nat} (h : j < k) : getU L (k + 1) j = getU L k j := by
  unfold getU; rw [if_pos (by omega), if_pos h]
theorem getU_gt {L : List Bs} {k j : Nat} (h : k < j) : getU L (k + 1) j = getU L k j := by
  unfold getU; rw [if_neg (by omega), if_neg (by omega)]
theorem getU_step0 {L : List Bs} {a0 a1 a2 p : ByteArray} (hk : 0 < L.length) (h : a0 = tx (getU L 0 0) ∧ a1 = tx (getU L 0 1) ∧ a2 = tx (getU L 0 2)) (hp : p = tx L[0]) : p = tx (getU L (0 + 1) 0) ∧ a1 = tx (getU L (0 + 1) 1) ∧ a2 = tx (getU L (0 + 1) 2) :=
  ⟨by rw [getU_at hk]; exact hp, by rw [getU_gt (by omega)]; exact h.2.1, by rw [getU_gt (by omega)]; exact h.2.2⟩
theorem getU_step1 {L : List Bs} {a0 a1 a2 p : ByteArray} (hk : 1 < L.length) (h : a0 = tx (getU L 1 0) ∧ a1 = tx (getU L 1 1) ∧ a2 = tx (getU L 1 2)) (hp : p = tx L[1]) : a0 = tx (getU L (1 + 1) 0) ∧ p = tx (getU L (1 + 1) 1) ∧ a2 = tx (getU L (1 + 1) 2) :=
  ⟨by rw [getU_lt (by omega)]; exact h.1, by rw [getU_at hk]; exact hp, by rw [getU_gt (by omega)]; exact h.2.2⟩
theorem getU_step2 {L : List Bs} {a0 a1 a2 p : ByteArray} (hk : 2 < L.length) (h : a0 = tx (getU L 2 0) ∧ a1 = tx (getU L 2 1) ∧ a2 = tx (getU L 2 2)) (hp : p = tx L[2]) : a0 = tx (getU L (2 + 1) 0) ∧ a1 = tx (getU L (2 + 1) 1) ∧ p = tx (getU L (2 + 1) 2) :=
  ⟨by rw [getU_lt (by omega)]; exact h.1, by rw [getU_lt (by omega)]; exact h.2.1, by rw [getU_at hk]; exact hp⟩
theorem TxRow.set_ {w : World} {g : Nat} {l : List Bs} (h : TxRow w g l) {p : Addr} {v : Value} (hp : g ≠ p.block) : TxRow (w.setCell p v) g l :=
  ⟨by rw [show (w.setCell p v).heap.size = w.heap.size from Array.size_modify]; exact h.1, fun j x hx => by
    rw [World.cell?_setCell_other _ _ _ _ (fun e => hp (by first | exact congrArg Addr.block e | exact (congrArg Addr.block e).symm))]; exact h.2 j x hx⟩

end Go.Proofs.Ytdinaphcglmhoaa
