/-
  Rows of two texts an element; the text ahead of the stroke. No program in sight.
-/
import Derived.Test.YtdinaphcglmhoaaFrame
import Derived.Test.YtdinaphcglmhoaaCutP
import Derived.Lib.Hide
import Derived.Below
namespace Go.Proofs.Ytdinaphcglmhoaa
open Go.RowKit

abbrev PV := ByteArray × ByteArray
def enc2 (x : PV) : List Value := [.string x.1, .string x.2]
def flat2 (l : List PV) : List Value := l.flatMap enc2
/-- a row of pairs that lies in block g from cell o on -/
def PvAt (w : World) (g o : Nat) (l : List PV) : Prop := g < w.heap.size ∧ ∀ (j : Nat) (h : j < l.length), w.cell? ⟨g, o + j * 2, none⟩ = some (.string l[j].1) ∧ w.cell? ⟨g, o + j * 2 + 1, none⟩ = some (.string l[j].2)

theorem PvAt.below {w w' : World} {B g o : Nat} {l : List PV} (h : PvAt w g o l) (hb : Below B w w') (hg : g < B) : PvAt w' g o l :=
  ⟨by have := h.1; have := hb.size; omega, fun j hj => ⟨(hb.cell (p := ⟨g, o + j * 2, none⟩) hg).trans (h.2 j hj).1, (hb.cell (p := ⟨g, o + j * 2 + 1, none⟩) hg).trans (h.2 j hj).2⟩⟩

theorem flat2_len (l : List PV) : (flat2 l).length = l.length * 2 := by
  induction l with
  | nil => rfl
  | cons x r ih => simp [flat2, enc2] at ih ⊢; omega
theorem flat2_snoc (l : List PV) (x : PV) : flat2 (l ++ [x]) = flat2 l ++ enc2 x := by simp [flat2]
theorem flat2_at (l : List PV) : ∀ (j : Nat) (h : j < l.length), (flat2 l)[j * 2]? = some (.string l[j].1) ∧ (flat2 l)[j * 2 + 1]? = some (.string l[j].2) := by
  induction l with
  | nil => intro j h; simp at h
  | cons x r ih =>
    intro j h
    cases j with
    | zero => simp [flat2, enc2]
    | succ j =>
      have := ih j (by simpa using h)
      have e : flat2 (x :: r) = .string x.1 :: .string x.2 :: flat2 r := by simp [flat2, enc2]
      rw [e, show (j + 1) * 2 = j * 2 + 1 + 1 from by omega]
      simpa using this

def nStr (c : UInt8) : Bool := !(c == 47)
def hdV (l : Bs) : Bs := l.takeWhile nStr
def tlV (l : Bs) : Bs := l.dropWhile nStr

/-- the first piece is what stands ahead of the stroke -/
theorem cutL_hd (l : Bs) : (cutL l 47)[0]? = some (hdV l) := by
  unfold hdV
  induction l with
  | nil => rfl
  | cons c r ih =>
    by_cases h : c = 47
    · subst h; simp [cutL, nStr]
    · have hn : nStr c = true := by unfold nStr; simpa using h
      simp only [cutL, if_neg h, List.takeWhile_cons, hn, if_true]
      cases hr : cutL r 47 with
      | nil => exact absurd hr (cutL_ne r 47)
      | cons x t => rw [hr] at ih; simpa using ih
theorem hdV_len (l : Bs) : (hdV l).length ≤ l.length := by
  unfold hdV
  exact (List.takeWhile_sublist _).length_le
end Go.Proofs.Ytdinaphcglmhoaa
