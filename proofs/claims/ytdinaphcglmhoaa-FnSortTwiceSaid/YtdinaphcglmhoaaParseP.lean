/-
  semver.parse: plain part; its result in memory.
-/
import Derived.Test.YtdinaphcglmhoaaPreP
namespace Go.Proofs.Ytdinaphcglmhoaa
open Go.RowKit

structure Sv where
  major : Bs
  minor : Bs
  patch : Bs
  short : Bs
  pre : Bs
  build : Bs

def preV (f : Bs) : Option (Bs × Bs) := if f[0]? = some 45 then spanPre f else some ([], f)
def bldV (g : Bs) : Option (Bs × Bs) := if g[0]? = some 43 then spanBuild g else some ([], g)
def tailV (M m p f : Bs) : Option Sv :=
  match preV f with
  | none => none
  | some q => match bldV q.2 with
    | none => none
    | some r => if r.2 = [] then some ⟨M, m, p, [], q.1, r.1⟩ else none
def parse3 (M m c : Bs) : Option Sv :=
  match spanI c with
  | none => none
  | some q => tailV M m q.1 q.2
def parse2 (M c : Bs) : Option Sv :=
  match spanI c with
  | none => none
  | some q => if q.2 = [] then some ⟨M, q.1, [48], [46, 48], [], []⟩ else if q.2[0]? = some 46 then parse3 M q.1 (q.2.drop 1) else none
def parse1 (a : Bs) : Option Sv :=
  match spanI a with
  | none => none
  | some q => if q.2 = [] then some ⟨q.1, [48], [48], [46, 48, 46, 48], [], []⟩ else if q.2[0]? = some 46 then parse2 q.1 (q.2.drop 1) else none
def parseV (l : Bs) : Option Sv := if l[0]? = some 118 then parse1 (l.drop 1) else none

def svVal (p : Sv) : Value := .tuple #[.agg #[.string (tx p.major), .string (tx p.minor), .string (tx p.patch), .string (tx p.short), .string (tx p.pre), .string (tx p.build)], .bool true]
def failVal (a b c d e f : ByteArray) : Value := .tuple #[.agg #[.string a, .string b, .string c, .string d, .string e, .string f], .bool false]
def ParE (r : Option Sv) (e : Ending) : Prop := match r with
  | some p => e = .returned (svVal p)
  | none => ∃ a b c d f g : ByteArray, e = .returned (failVal a b c d f g)
theorem ParE.no {r : Option Sv} (h : r = none) (a b c d f g : ByteArray) : ParE r (.returned (failVal a b c d f g)) := by rw [h]; exact ⟨a, b, c, d, f, g, rfl⟩
theorem ParE.yes {r : Option Sv} {p : Sv} (h : r = some p) : ParE r (.returned (svVal p)) := by rw [h]; rfl

theorem spanI_len {l t r : Bs} (h : spanI l = some (t, r)) : t.length + r.length = l.length := by
  unfold spanI at h
  split at h
  · injection h with h; injection h with h1 h2
    rw [← h1, ← h2, ← List.length_append, List.takeWhile_append_dropWhile]
  · cases h
theorem spanPre_len {l t r : Bs} (h : spanPre l = some (t, r)) : t.length + r.length ≤ l.length + 1 := by
  rw [spanPre_eq] at h
  split at h
  · injection h with h; injection h with h1 h2
    have := congrArg List.length (List.takeWhile_append_dropWhile (p := np) (l := l.drop 1))
    rw [List.length_append, List.length_drop] at this
    rw [← h1, ← h2, List.length_cons]; omega
  · cases h

/-- The block of the named result: six texts, in a block of the call's own. -/
structure PS (w0 w : World) (t : TypeId) (a0 a1 a2 a3 a4 a5 : ByteArray) : Prop where
  below : Below w0.heap.size w0 w
  blk : w.heap[w0.heap.size]? = some (.cells #[.string a0, .string a1, .string a2, .string a3, .string a4, .string a5] t (0, 0))

section
variable {w0 w w' : World} {t : TypeId} {a0 a1 a2 a3 a4 a5 : ByteArray}
theorem PS.lt (h : PS w0 w t a0 a1 a2 a3 a4 a5) : w0.heap.size < w.heap.size := by
  rcases Nat.lt_or_ge w0.heap.size w.heap.size with hlt | hge
  · exact hlt
  · have := h.blk; rw [Array.getElem?_eq_none hge] at this; cases this
theorem PS.cell (h : PS w0 w t a0 a1 a2 a3 a4 a5) (i : Nat) : w.cell? ⟨w0.heap.size, i, none⟩ = (#[.string a0, .string a1, .string a2, .string a3, .string a4, .string a5] : Array Value)[i]? := cell_of_row w _ i _ t (0, 0) h.blk
theorem PS.cells (h : PS w0 w t a0 a1 a2 a3 a4 a5) : w.cell? ⟨w0.heap.size, 0, none⟩ = some (.string a0) ∧ w.cell? ⟨w0.heap.size, 1, none⟩ = some (.string a1) ∧ w.cell? ⟨w0.heap.size, 2, none⟩ = some (.string a2) ∧
    w.cell? ⟨w0.heap.size, 3, none⟩ = some (.string a3) ∧ w.cell? ⟨w0.heap.size, 4, none⟩ = some (.string a4) ∧ w.cell? ⟨w0.heap.size, 5, none⟩ = some (.string a5) :=
  ⟨h.cell 0, h.cell 1, h.cell 2, h.cell 3, h.cell 4, h.cell 5⟩
theorem PS.free (h : PS w0 w t a0 a1 a2 a3 a4 a5) (i : Nat) : w.frozen? ⟨w0.heap.size, i, none⟩ = false := by
  have := h.blk
  simp [World.frozen?, this]
theorem PS.call (h : PS w0 w t a0 a1 a2 a3 a4 a5) (hb : Below w.heap.size w w') : PS w0 w' t a0 a1 a2 a3 a4 a5 :=
  ⟨below_tr h.below hb, (hb.block _ h.lt).trans h.blk⟩
theorem PS.set_ (h : PS w0 w t a0 a1 a2 a3 a4 a5) (i : Nat) (v : Value) : (w.setCell ⟨w0.heap.size, i, none⟩ v).heap[w0.heap.size]? = some (.cells ((#[.string a0, .string a1, .string a2, .string a3, .string a4, .string a5] : Array Value).setIfInBounds i v) t (0, 0)) := by
  have := h.blk
  simp [World.setCell, Array.getElem?_modify, this]
theorem PS.set0 (h : PS w0 w t a0 a1 a2 a3 a4 a5) (b : ByteArray) : PS w0 (w.setCell ⟨w0.heap.size, 0, none⟩ (.string b)) t b a1 a2 a3 a4 a5 := ⟨h.below.setCell (Nat.le_refl _) _, h.set_ 0 _⟩
theorem PS.set1 (h : PS w0 w t a0 a1 a2 a3 a4 a5) (b : ByteArray) : PS w0 (w.setCell ⟨w0.heap.size, 1, none⟩ (.string b)) t a0 b a2 a3 a4 a5 := ⟨h.below.setCell (Nat.le_refl _) _, h.set_ 1 _⟩
theorem PS.set2 (h : PS w0 w t a0 a1 a2 a3 a4 a5) (b : ByteArray) : PS w0 (w.setCell ⟨w0.heap.size, 2, none⟩ (.string b)) t a0 a1 b a3 a4 a5 := ⟨h.below.setCell (Nat.le_refl _) _, h.set_ 2 _⟩
theorem PS.set3 (h : PS w0 w t a0 a1 a2 a3 a4 a5) (b : ByteArray) : PS w0 (w.setCell ⟨w0.heap.size, 3, none⟩ (.string b)) t a0 a1 a2 b a4 a5 := ⟨h.below.setCell (Nat.le_refl _) _, h.set_ 3 _⟩
theorem PS.set4 (h : PS w0 w t a0 a1 a2 a3 a4 a5) (b : ByteArray) : PS w0 (w.setCell ⟨w0.heap.size, 4, none⟩ (.string b)) t a0 a1 a2 a3 b a5 := ⟨h.below.setCell (Nat.le_refl _) _, h.set_ 4 _⟩
theorem PS.set5 (h : PS w0 w t a0 a1 a2 a3 a4 a5) (b : ByteArray) : PS w0 (w.setCell ⟨w0.heap.size, 5, none⟩ (.string b)) t a0 a1 a2 a3 a4 b := ⟨h.below.setCell (Nat.le_refl _) _, h.set_ 5 _⟩
theorem PS.new (w : World) (t : TypeId) (a0 a1 a2 a3 a4 a5 : ByteArray) : PS w (w.alloc (.cells #[.string a0, .string a1, .string a2, .string a3, .string a4, .string a5] t)) t a0 a1 a2 a3 a4 a5 :=
  ⟨below_al (Below.refl _ _) _, heap_alloc_new w _⟩
end

/-- a text that is not empty, as the walk asks for it -/
theorem str_cons {v : ByteArray} {c : UInt8} {r : Bs} (h : v.data.toList = c :: r) : 0 < v.size ∧ v.toList.isEmpty = false ∧ (∀ h0 : 0 < v.size, v[0] = c) ∧ (v.extract 1 v.size).data.toList = r := by
  have h0 : 0 < v.size := by rw [← size_len, h]; simp
  refine ⟨h0, by rw [Lib.toList_data, h]; rfl, fun h0 => ?_, by rw [extract_drop, h]; rfl⟩
  have := byte_at' v 0 h0
  rw [h] at this; simp at this; exact this.symm

end Go.Proofs.Ytdinaphcglmhoaa
