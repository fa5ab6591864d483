/-
  Rows of two texts an element: reading, owning, sorting. No program in sight.
-/
import Derived.Test.YtdinaphcglmhoaaPv
import Derived.Shelf.SlSortCmp.WholeK
import Derived.Lib.OwnBridge
import Derived.Lib.Hide
namespace Go.Proofs.Ytdinaphcglmhoaa
open Go.RowKit Go.Sort

theorem pvAt_of_owns {w : World} {base g : Nat} {e : TypeId} {n cap : Nat} {l : List PV} (h : w.ownsRow base e 2 (.slice (some ⟨g, 0, none⟩) n cap) n (flat2 l)) : PvAt w g 0 l ∧ l.length = n ∧ base ≤ g := by
  have hn : l.length = n := by have := h.1; rw [flat2_len] at this; omega
  rcases h.2 with ⟨e0, _⟩ | ⟨g', cap', cur, e0, hb, hg, hc, hm, hs, ht⟩
  · cases e0
  · injection e0 with e1 _ e3
    injection e1 with e1
    injection e1 with e1
    subst e1; subst e3
    have hlt : g < w.heap.size := by
      rcases Nat.lt_or_ge g w.heap.size with h' | h'
      · exact h'
      · rw [Array.getElem?_eq_none h'] at hg; cases hg
    have C : ∀ j u, (flat2 l)[j]? = some u → w.cell? ⟨g, j, none⟩ = some u := fun j u hu => by
      have := h.cells (g := g) rfl j u hu
      rwa [show (⟨g, 0, none⟩ : Addr).add j = ⟨g, j, none⟩ from by unfold Addr.add; split <;> simp_all] at this
    refine ⟨⟨hlt, fun j hj => ⟨?_, ?_⟩⟩, hn, hb⟩
    · rw [Nat.zero_add]; exact C _ _ (flat2_at l j hj).1
    · rw [Nat.zero_add]; exact C _ _ (flat2_at l j hj).2

section
variable {α : Type} [Inhabited α]

theorem flatK_eq (pv : α → PV) (l : List α) : ∀ j, j < l.length * 2 → (flat2 (l.map pv))[j]? = some (flatK (fun x => enc2 (pv x)) 2 l.toArray)[j]! := by
  intro j hj
  rw [get_flatK _ _ _ _ (by simpa using hj)]
  have h2 : j / 2 < l.length := by omega
  have e := flat2_at (l.map pv) (j / 2) (by simpa using h2)
  have g : (l.toArray)[j / 2]! = l[j / 2] := by rw [getElem!_pos _ _ (by simpa using h2)]; simp
  rw [g]
  generalize hq : j / 2 = q at *
  rcases (show j % 2 = 0 ∨ j % 2 = 1 from by omega) with h | h
  · rw [h, show j = q * 2 from by omega, e.1]; simp [enc2]
  · rw [h, show j = q * 2 + 1 from by omega, e.2]; simp [enc2]

/-- what the call owns is held, in the sort's words -/
theorem holdsK_of_owns {w : World} {base g n cap : Nat} {e : TypeId} (pv : α → PV) (l : List α) (h : w.ownsRow base e 2 (.slice (some ⟨g, 0, none⟩) n cap) n (flat2 (l.map pv))) :
    HoldsK (fun x => enc2 (pv x)) 2 w g 0 l.toArray ∧ g < w.heap.size ∧ base ≤ g ∧ l.length = n := by
  have P := pvAt_of_owns h
  have hn : l.length = n := by simpa using P.2.1
  refine ⟨?_, P.1.1, P.2.2, hn⟩
  rcases h.2 with ⟨e0, _⟩ | ⟨g', cap', cur, e0, hb, hg, hc, hm, hs, ht⟩
  · cases e0
  · injection e0 with e1 _ e3
    injection e1 with e1
    injection e1 with e1
    subst e1; subst e3
    intro j hj
    have hj' : j < l.length * 2 := by simpa using hj
    refine ⟨?_, by simp [World.frozen?, hg]⟩
    have := h.cells (g := g) rfl j _ (flatK_eq pv l j hj')
    rw [show (⟨g, 0, none⟩ : Addr).add j = ⟨g, j, none⟩ from by unfold Addr.add; split <;> simp_all] at this
    rw [Nat.zero_add]; exact this

/-- what the sort leaves can be read -/
theorem pvAt_of_holdsK {w : World} {g : Nat} (pv : α → PV) (d : Array α) (hg : g < w.heap.size) (h : HoldsK (fun x => enc2 (pv x)) 2 w g 0 d) : PvAt w g 0 (d.toList.map pv) := by
  refine ⟨hg, fun j hj => ?_⟩
  have hj' : j < d.size := by simpa using hj
  have a := (HoldsK.cell h hj' (show 0 < 2 from by decide)).1
  have b := (HoldsK.cell h hj' (show 1 < 2 from by decide)).1
  rw [getElem!_pos d j hj'] at a b
  simp [enc2] at a b
  simp
  exact ⟨a, b⟩

theorem grown_sort (enc : α → List Value) (w : World) (g n : Nat) (d : Array α) (os : Array Obj) : w.grownBy (sortWorldK enc 2 w g 0 n d os) (some g) := by
  refine ⟨rfl, rfl, rfl, by simp [sortWorldK, grow, putRowK, putRow, mapBlock, Sort.ahead], fun k hk hne => ?_⟩
  have hne' : k ≠ g := fun e => hne (by rw [e])
  have hs : k < (putRowK enc 2 (Sort.ahead w n) g 0 d).heap.size := by simp [putRowK, putRow, mapBlock, Sort.ahead]; exact hk
  simp only [sortWorldK, grow]
  rw [Array.getElem?_append_left hs]
  simp [putRowK, putRow, mapBlock, Sort.ahead, Array.getElem?_modify, Ne.symm hne']

theorem holds_sort (enc : α → List Value) (w : World) (g n : Nat) (d0 d : Array α) (os : Array Obj) (hg : g < w.heap.size) (h : HoldsK enc 2 w g 0 d0) (hs : d.size = d0.size) : HoldsK enc 2 (sortWorldK enc 2 w g 0 n d os) g 0 d :=
  holdsK_grow enc 2 _ os g 0 d (by simp [putRowK, putRow, mapBlock, Sort.ahead]; exact hg) (holdsK_putRowK enc 2 _ g 0 d0 d (holdsK_ahead enc 2 w n g 0 d0 h) hs)
end
end Go.Proofs.Ytdinaphcglmhoaa
