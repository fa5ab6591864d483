/-
  Small plain functions: asciiB, digB, letterB, joinN.
-/
import Derived.Test.YtdinaphcglmhoaaCutP
import Derived.Test.YtdinaphcglmhoaaFrame
import Derived.Lib.SlBytesRow
import Derived.Laws.IdiomStrings
namespace Go.Proofs.Ytdinaphcglmhoaa
open Go.RowKit

def loB (c : UInt8) : Bool := decide ((c.toNat : Int) < 128)
def asciiB (l : Bs) : Bool := l.all loB
theorem asciiB_snoc {l : Bs} {c : UInt8} (h : asciiB l = true) (hc : loB c = true) : asciiB (l ++ [c]) = true := by
  simp [asciiB] at h ⊢; exact ⟨h, hc⟩
theorem asciiB_false {l : Bs} {c : UInt8} (h : c ∈ l) (hc : loB c = false) : asciiB l = false := by
  simp [asciiB]; exact ⟨c, h, hc⟩

def digB (l : Bs) : Bool := !l.isEmpty && allB l false false []
theorem digB_nil {l : Bs} (h : l.length = 0) : digB l = false := by
  rw [List.eq_nil_of_length_eq_zero h]; rfl
theorem digB_cons {l : Bs} (h : 0 < l.length) : digB l = allB l false false [] := by
  cases l with
  | nil => simp at h
  | cons c r => simp [digB]

def letterB (l : Bs) : Bool := !l.isEmpty && (allB (l.take 1) true true [] && !digB (l.take 1))
theorem letterB_nil {l : Bs} (h : l.length = 0) : letterB l = false := by
  rw [List.eq_nil_of_length_eq_zero h]; rfl
theorem letterB_cons {l : Bs} (h : 0 < l.length) : letterB l = (allB (l.take 1) true true [] && !digB (l.take 1)) := by
  cases l with
  | nil => simp at h
  | cons c r => simp [letterB]

def joinN (a b : Int) : Int := if a = 2 ∨ b = 2 then 2 else if a = 0 ∨ b = 0 then 0 else 1

theorem extract_take (s : ByteArray) (k : Nat) : (s.extract 0 k).data.toList = s.data.toList.take k := by
  rw [Lib.extract_data]; simp
theorem extract_drop (s : ByteArray) (k : Nat) : (s.extract k s.size).data.toList = s.data.toList.drop k := by
  rw [Lib.extract_data, List.take_of_length_le (by simp)]
theorem size_len (s : ByteArray) : s.data.toList.length = s.size := by simp

/-- some bool, some int, some text are handed back -/
def SomeBool (e : Ending) : Prop := ∃ b : Bool, e = .returned (.bool b)
def SomeInt (e : Ending) : Prop := ∃ n : Int, e = .returned (.int .i64 n)
def SomeTx (m : Nat) (e : Ending) : Prop := ∃ t : ByteArray, t.size = m ∧ e = .returned (.string t)

theorem below_tr {w w1 w2 : World} (h : Below w.heap.size w w1) (k : Below w1.heap.size w1 w2) : Below w.heap.size w w2 := h.trans (k.mono h.size)

/-- A row of bytes that may be written. -/
def ByteRow (w : World) (g : Nat) (t : Bs) : Prop := g < w.heap.size ∧ (∀ (j : Nat) (h : j < t.length), w.cell? ⟨g, j, none⟩ = some (.int .u8 (t[j].toNat : Int))) ∧ (∀ j : Nat, j < t.length → w.frozen? ⟨g, j, none⟩ = false)

theorem size_setCell (w : World) (p : Addr) (v : Value) : (w.setCell p v).heap.size = w.heap.size := by
  unfold World.setCell
  exact Array.size_modify

theorem ByteRow.set_ {w : World} {g : Nat} {t : Bs} (h : ByteRow w g t) (k : Nat) (hk : k < t.length) (c : UInt8) : ByteRow (w.setCell ⟨g, k, none⟩ (.int .u8 (c.toNat : Int))) g (t.set k c) := by
  refine ⟨by rw [size_setCell]; exact h.1, fun j hj => ?_, fun j hj => ?_⟩
  · rw [List.length_set] at hj
    by_cases e : j = k
    · subst e
      rw [World.cell?_setCell_same _ _ _ (h.2.1 j hk)]
      rw [List.getElem_set_self]
    · rw [World.cell?_setCell_other _ _ _ _ (fun e' => e (by injection e' with _ e2 _; exact e2.symm)), h.2.1 j hj]
      rw [List.getElem_set_ne (Ne.symm e)]
  · rw [List.length_set] at hj
    rw [World.frozen?_setCell]
    exact h.2.2 j hj
theorem ByteRow.below {w w' : World} {g : Nat} {t : Bs} (h : ByteRow w g t) (hb : Below w.heap.size w w') : ByteRow w' g t :=
  ⟨by have := h.1; have := hb.size; omega, fun j hj => (hb.cell (p := ⟨g, j, none⟩) h.1).trans (h.2.1 j hj), fun j hj => (hb.frozen (p := ⟨g, j, none⟩) h.1).trans (h.2.2 j hj)⟩

/-- '[]byte(s)' -/
theorem conv_row {P : Program} (w : World) (src dst e : TypeId) (s : ByteArray) (hs : P.underlying src = some .string) (hd : P.underlying dst = some (.slice e)) (he : P.underlying e = some (.int .u8)) :
    ∃ cap W0, (convert src dst (.string s)).run P w = .ok (.slice (some ⟨w.heap.size, 0, none⟩) s.size cap) W0 ∧ ByteRow W0 w.heap.size s.data.toList ∧ Below w.heap.size w W0 := by
  refine ⟨_, _, run_bytes_of_string w src dst e s hs hd he, ⟨by simp, fun j hj => ?_, fun j hj => ?_⟩, ((Below.refl _ _).drew).alloc (Nat.le_refl _) _⟩
  · rw [show w.heap.size = w.drew.heap.size from rfl, World.cell?_alloc_mark]
    have hj' : j < s.size := by simpa using hj
    simp [bytesRow, Array.getElem?_append, hj']
  · rw [show w.heap.size = w.drew.heap.size from rfl]
    have hj' : j < s.size := by simpa using hj
    have hl : j < (bytesRow s (grownCap w s.size 0 e)).size := by
      have : s.data.size = s.size := rfl
      simp [bytesRow]; omega
    rw [World.frozen?_alloc_mark]
    simp; omega

end Go.Proofs.Ytdinaphcglmhoaa
