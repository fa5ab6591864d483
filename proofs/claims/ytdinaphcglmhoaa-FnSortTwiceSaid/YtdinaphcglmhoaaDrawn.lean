/-
  'Below', and what is drawn does not fall. PRINTED by gen_d.py.
-/
import Derived.Test.YtdinaphcglmhoaaParseP
import Derived.Sort.Grow
namespace Go.Proofs.Ytdinaphcglmhoaa
open Go.RowKit
set_option linter.unusedVariables false
set_option linter.unusedSimpArgs false

/-- Nothing below B has turned, and the draws have not gone back. -/
structure BelowD (B : Nat) (w w' : World) : Prop extends Below B w w' where
  drawn : w.drawn ≤ w'.drawn
theorem BelowD.refl (B : Nat) (w : World) : BelowD B w w := ⟨Below.refl B w, Nat.le_refl _⟩
theorem BelowD.trans {B : Nat} {a b c : World} (h : BelowD B a b) (k : BelowD B b c) : BelowD B a c := ⟨h.toBelow.trans k.toBelow, Nat.le_trans h.drawn k.drawn⟩
theorem BelowD.mono {B B' : Nat} {w w' : World} (h : BelowD B w w') (hB : B' ≤ B) : BelowD B' w w' := ⟨h.toBelow.mono hB, h.drawn⟩
theorem BelowD.drew {B : Nat} {w w' : World} (h : BelowD B w w') : BelowD B w w'.drew := ⟨h.toBelow.drew, Nat.le_succ_of_le h.drawn⟩
theorem BelowD.setCell {B : Nat} {w w' : World} (h : BelowD B w w') {p : Addr} (hp : B ≤ p.block) (v : Value) : BelowD B w (w'.setCell p v) := ⟨h.toBelow.setCell hp v, h.drawn⟩
theorem belowD_al {w w' : World} (h : BelowD w.heap.size w w') (o : Obj) : BelowD w.heap.size w (w'.alloc o) := ⟨below_al h.toBelow o, h.drawn⟩
theorem belowD_tr {w w1 w2 : World} (h : BelowD w.heap.size w w1) (k : BelowD w1.heap.size w1 w2) : BelowD w.heap.size w w2 := h.trans (k.mono h.size)
theorem belowD_dr {w : World} (h : BelowD w.heap.size w w) (n : Nat) : BelowD w.heap.size w (w.drewN n) := ⟨⟨rfl, rfl, rfl, Nat.le_refl _, fun _ _ => rfl⟩, by show w.drawn ≤ w.drawn + n; omega⟩
/-- such a world is w with draws and blocks behind -/
theorem BelowD.grow {w w' : World} (h : BelowD w.heap.size w w') : ∃ q os', w' = Sort.grow (w.drewN q) os' := by
  refine ⟨w'.drawn - w.drawn, w'.heap.extract w.heap.size w'.heap.size, ?_⟩
  have hh : w'.heap = w.heap ++ w'.heap.extract w.heap.size w'.heap.size := by
    apply Array.ext_getElem?
    intro i
    rw [Array.getElem?_append]
    split
    · exact h.block i ‹_›
    · have := h.size
      rw [Array.getElem?_extract]
      rcases Nat.lt_or_ge i w'.heap.size with hi | hi
      · rw [if_pos (by omega)]; congr 1; omega
      · rw [Array.getElem?_eq_none hi, if_neg (by omega)]
  have hd : w.drawn + (w'.drawn - w.drawn) = w'.drawn := by have := h.drawn; omega
  have e1 := h.os
  have e2 := h.tape
  have e3 := h.output
  cases w'
  simp only [Sort.grow, World.drewN] at *
  subst e1; subst e2; subst e3
  rw [hd, ← hh]

end Go.Proofs.Ytdinaphcglmhoaa
