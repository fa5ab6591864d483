/-
  path.matchChunk: what its rounds keep.
-/
import Derived.Test.YtdinaphcglmhoaaDoorEsc
import Derived.Test.YtdinaphcglmhoaaDoorGlobW
import Derived.Test.YtdinaphcglmhoaaDoorScan
namespace Go.Proofs.YtdinaphcglmhoaaDoor
open Go.RowKit
set_option linter.unusedVariables false

def ChR (ch s : Bs) (err : Value) (ok : Bool) (t : Bs) : Prop := simP ch → err = .nilIface ∧ (asciiB s = true → (ok = true → chunkM ch s = some t) ∧ (ok = false → chunkM ch s = none))
def ChE (ch s : Bs) (w : World) (e : Ending) (w' : World) : Prop := ∃ (t : ByteArray) (ok : Bool) (err : Value), e = .returned (.tuple #[.string t, .bool ok, err]) ∧ IsErr err ∧ t.size ≤ s.length ∧
  ChR ch s err ok t.data.toList ∧ Below w.heap.size w w'

/-- what holds at each round's head -/
def Inv (ch s c t : Bs) (f : Bool) : Prop := simP ch → simP c ∧ (asciiB s = true → (f = false → chunkM ch s = chunkM c t ∧ asciiB t = true) ∧ (f = true → chunkM ch s = none))
theorem simP_tail {x : UInt8} {c : Bs} (h : simP (x :: c)) : simP c := simP_sub h (fun _ hc => List.mem_cons_of_mem _ hc)
theorem Inv.start (ch s : Bs) : Inv ch s ch s false := fun h => ⟨h, fun ha => ⟨fun _ => ⟨rfl, ha⟩, fun h => by cases h⟩⟩
theorem Inv.fail {ch s c t t' : Bs} {x : UInt8} (h : Inv ch s (x :: c) t true) : Inv ch s c t' true := fun hs =>
  ⟨simP_tail (h hs).1, fun ha => ⟨fun e => (by cases e), fun _ => ((h hs).2 ha).2 rfl⟩⟩
theorem Inv.empty {ch s c t' : Bs} {x : UInt8} (h : Inv ch s (x :: c) [] false) : Inv ch s c t' true := fun hs =>
  ⟨simP_tail (h hs).1, fun ha => ⟨fun e => (by cases e), fun _ => by rw [(((h hs).2 ha).1 rfl).1]; rfl⟩⟩
theorem Inv.one {ch s c t : Bs} {x y : UInt8} (h : Inv ch s (x :: c) (y :: t) false) (ho : oneB x y = true) : Inv ch s c t false := fun hs =>
  ⟨simP_tail (h hs).1, fun ha => ⟨fun _ => by
    obtain ⟨e, hat⟩ := ((h hs).2 ha).1 rfl
    refine ⟨?_, ascii_sub hat (fun _ hc => List.mem_cons_of_mem _ hc)⟩
    rw [e]; simp [chunkM, ho], fun e => (by cases e)⟩⟩
theorem Inv.no {ch s c t t' : Bs} {x y : UInt8} (h : Inv ch s (x :: c) (y :: t) false) (ho : oneB x y = false) : Inv ch s c t' true := fun hs =>
  ⟨simP_tail (h hs).1, fun ha => ⟨fun e => (by cases e), fun _ => by rw [(((h hs).2 ha).1 rfl).1]; simp [chunkM, ho]⟩⟩
theorem Inv.br {ch s c t : Bs} {f : Bool} {x : UInt8} (h : Inv ch s (x :: c) t f) (hx : x = 91 ∨ x = 92) : ¬ simP ch := fun hs => by
  have := (h hs).1
  rcases hx with rfl | rfl
  · exact this.1 (by simp)
  · exact this.2 (by simp)
theorem Inv.any {ch s c t : Bs} {f : Bool} (h : ¬ simP ch) : Inv ch s c t f := fun hs => absurd hs h

theorem str_tail {c : ByteArray} (h0 : 0 < c.size) : c.data.toList = c[0] :: (c.extract 1 c.size).data.toList := by
  rw [extract_drop]
  have := byte_at' c 0 h0
  cases e : c.data.toList with
  | nil => rw [e] at this; simp at this
  | cons x r => rw [e] at this; simp at this; rw [← this]; rfl
theorem ext_n1 {t : ByteArray} {n : Nat} (h : n = 1) : t.extract n t.size = t.extract 1 t.size := by rw [h]

end Go.Proofs.YtdinaphcglmhoaaDoor
