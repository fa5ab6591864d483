/-
  spec.Cut: plain part. 'cutL l b': the pieces of l between the bytes b.
-/
import Derived.Test.YtdinaphcglmhoaaPlain
import Derived.Lib.Strings
namespace Go.Proofs.Ytdinaphcglmhoaa
open Go.RowKit

def cutL : Bs → UInt8 → List Bs
  | [], _ => [[]]
  | c :: r, b => if c = b then [] :: cutL r b else match cutL r b with
    | [] => [[c]]
    | h :: t => (c :: h) :: t

theorem cutL_ne (l : Bs) (b : UInt8) : cutL l b ≠ [] := by
  cases l with
  | nil => simp [cutL]
  | cons c r =>
    simp only [cutL]
    split
    · simp
    · split <;> simp

/-- one byte more, the one that parts -/
theorem cutL_hit (l : Bs) (b : UInt8) : cutL (l ++ [b]) b = cutL l b ++ [[]] := by
  induction l with
  | nil => simp [cutL]
  | cons c r ih =>
    simp only [List.cons_append, cutL, ih]
    split
    · simp
    · cases h : cutL r b with
      | nil => exact absurd h (cutL_ne r b)
      | cons x t => simp

/-- one byte more, another one -/
theorem cutL_miss (l : Bs) (b c : UInt8) (h : c ≠ b) (outs : List Bs) (cur : Bs) (e : cutL l b = outs ++ [cur]) : cutL (l ++ [c]) b = outs ++ [cur ++ [c]] := by
  induction l generalizing outs cur with
  | nil =>
    simp only [cutL] at e
    cases outs with
    | nil => simp at e; subst e; simp [cutL, h]
    | cons x t => simp at e
  | cons d r ih =>
    simp only [List.cons_append, cutL] at e ⊢
    by_cases hd : d = b
    · rw [if_pos hd] at e ⊢
      cases outs with
      | nil => simp at e; exact absurd e.2 (cutL_ne r b)
      | cons x t =>
        simp at e
        rw [ih t cur e.2, ← e.1]; simp
    · rw [if_neg hd] at e ⊢
      cases hr : cutL r b with
      | nil => exact absurd hr (cutL_ne r b)
      | cons x t =>
        rw [hr] at e
        simp only at e
        cases outs with
        | nil =>
          simp at e
          obtain ⟨e1, e2⟩ := e
          subst e2
          have := ih [] x (by simpa using hr)
          rw [this]; simp [← e1]
        | cons y outs' =>
          simp at e
          have := ih (x :: outs') cur (by rw [hr, e.2]; simp)
          rw [this]; simp [← e.1]

/-- the pieces are no more than the bytes and one, and none is longer -/
theorem cutL_sum (l : Bs) (b : UInt8) : (cutL l b).length + (cutL l b).flatten.length = l.length + 1 := by
  induction l with
  | nil => simp [cutL]
  | cons c r ih =>
    simp only [cutL]
    split
    · simp; simp at ih; omega
    · cases h : cutL r b with
      | nil => exact absurd h (cutL_ne r b)
      | cons x t => rw [h] at ih; simp; simp at ih; omega
theorem cutL_len (l : Bs) (b : UInt8) : (cutL l b).length ≤ l.length + 1 := by have := cutL_sum l b; omega
theorem flatten_mem {L : List Bs} {x : Bs} (h : x ∈ L) : x.length ≤ L.flatten.length := by
  induction L with
  | nil => cases h
  | cons y t ih =>
    simp only [List.flatten_cons, List.length_append]
    rcases List.mem_cons.1 h with rfl | h
    · omega
    · have := ih h; omega
theorem cutL_size (l : Bs) (b : UInt8) (x : Bs) (h : x ∈ cutL l b) : x.length ≤ l.length := by
  have := cutL_sum l b
  have := flatten_mem h
  have := List.length_pos_iff.2 (cutL_ne l b)
  omega

/-- A row of texts that lies in block g. -/
def TxRow (w : World) (g : Nat) (l : List Bs) : Prop := g < w.heap.size ∧ ∀ (j : Nat) x, l[j]? = some x → w.cell? ⟨g, j, none⟩ = some (.string (tx x))

theorem TxRow.below {w w' : World} {g : Nat} {l : List Bs} (h : TxRow w g l) (hb : Below w.heap.size w w') : TxRow w' g l :=
  ⟨by have := h.1; have := hb.size; omega, fun j x hx => (hb.cell (p := ⟨g, j, none⟩) h.1).trans (h.2 j x hx)⟩
theorem TxRow.at_ {w : World} {g : Nat} {l : List Bs} (h : TxRow w g l) (j : Nat) (hj : j < l.length) : w.cell? ⟨g, j, none⟩ = some (.string (tx l[j])) :=
  h.2 j _ (List.getElem?_eq_getElem hj)

def vstr (x : Bs) : Value := .string (tx x)
theorem vstr_one (x : Bs) : (vstr x).oneCell' = true := rfl

/-- the piece that is cut -/
theorem piece (s : ByteArray) (fr k : Nat) (cur : Bs) (h : cur = (s.data.toList.take k).drop fr) : Value.string (s.extract fr k) = vstr cur := by
  unfold vstr
  rw [← tx_of (s.extract fr k), Lib.extract_data, h, List.take_drop]
  by_cases hk : fr ≤ k
  · rw [show fr + (k - fr) = k from by omega]
  · rw [show k - fr = 0 from by omega]
    have e1 : (List.drop fr (List.take (fr + 0) s.data.toList)) = [] := List.drop_of_length_le (by simp; omega)
    have e2 : (List.drop fr (List.take k s.data.toList)) = [] := List.drop_of_length_le (by simp; omega)
    rw [e1, e2]

theorem row_of_owns {w : World} {base : Nat} {v : Value} {l : List Bs} {e : TypeId} (h : w.ownsRow base e 1 v l.length (l.map vstr)) (hne : l ≠ []) : ∃ g cap, v = .slice (some ⟨g, 0, none⟩) l.length cap ∧ TxRow w g l ∧ base ≤ g := by
  rcases h.2 with ⟨_, h0⟩ | ⟨g, cap, cur, rfl, hb, hh, hc, hm, hz, hx⟩
  · exact absurd (List.eq_nil_of_length_eq_zero h0) hne
  · refine ⟨g, cap, rfl, ⟨?_, fun j x hj => ?_⟩, hb⟩
    · rcases Nat.lt_or_ge g w.heap.size with hlt | hge
      · exact hlt
      · rw [Array.getElem?_eq_none hge] at hh; cases hh
    · have hjl : j < l.length := (List.getElem?_eq_some_iff.1 hj).1
      rw [h.cellAt j (by omega)]
      simp [hj, vstr]

end Go.Proofs.Ytdinaphcglmhoaa
