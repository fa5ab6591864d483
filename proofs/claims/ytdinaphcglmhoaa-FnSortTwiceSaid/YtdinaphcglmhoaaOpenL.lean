/-
  A list of versions that came in: opened.
-/
import Derived.Test.YtdinaphcglmhoaaPv
import Derived.Test.YtdinaphcglmhoaaProg
import Derived.Deep.SlicePairs
import Derived.WideShapes
namespace Go.Proofs.Ytdinaphcglmhoaa
open Go.RowKit Go.WideShapes Go.Deep
set_option linter.unusedVariables false

theorem cellsIv : Try.prog.cellsOf 24 = 2 := by kernel_rfl
theorem cellsTx : Try.prog.cellsOf 9 = 1 := by kernel_rfl
def vTx : Value → ByteArray
  | .string s => s
  | _ => ⟨#[]⟩

theorem open_pairs {H : Type} {enc : TypeId × Value → H} {W : World} {v : Value} {d : DataW H} {ps : List MemPlace} {r : Reach} {b0 : Nat} (hval : Value.okWide Try.prog W r b0 38 v) (h : DataW.Trod enc Try.prog W 0 (fun _ => true) true 38 v d ps) :
    (∃ a cap, v = .slice a 0 cap) ∨ ∃ (b o cap : Nat) (l : List PV), v = .slice (some ⟨b, o, none⟩) l.length cap ∧ l ≠ [] ∧ (l.length ≤ cap ∧ cap ≤ maxLen) ∧ PvAt W b o l ∧ ∀ x ∈ l, x.1.size ≤ maxLen ∧ x.2.size ≤ maxLen := by
  obtain ⟨a, len, cap, rfl⟩ := okWide_slice Try.underlying38 hval
  obtain ⟨fuel, hf⟩ := h
  rcases open_slice_pairs Try.underlying38 Try.underlying24 cellsIv rfl rfl cellsTx cellsTx hf with ⟨hc, hx⟩ | ⟨a', len', cap', m, k, V0, V1, D0, D1, P0, P1, hc, _, hl, hm, hmm, hx, hall⟩
  · simp [Value.cells] at hc
    obtain ⟨rfl, rfl, rfl⟩ := hc
    exact .inl ⟨none, 0, rfl⟩
  · simp [Value.cells] at hc
    obtain ⟨rfl, rfl, rfl⟩ := hc
    simp only [if_true] at hmm
    subst hmm
    by_cases h0 : len = 0
    · subst h0; exact .inl ⟨_, _, rfl⟩
    · obtain ⟨b, o, spot⟩ := a'
      have hspot : spot = none := by simpa [Addr.add] using World.cell?_spot (hall 0 (by omega)).1
      subst hspot
      have each : ∀ i, i < len → W.cell? ⟨b, o + i * 2, none⟩ = some (.string (vTx (V0 i))) ∧ W.cell? ⟨b, o + i * 2 + 1, none⟩ = some (.string (vTx (V1 i))) ∧ (vTx (V0 i)).size ≤ maxLen ∧ (vTx (V1 i)).size ≤ maxLen := fun i hi => by
        obtain ⟨c0, c1, t0, t1⟩ := hall i (by omega)
        obtain ⟨s0, e0, _, z0⟩ := DataW.trod_string Try.underlying9 t0
        obtain ⟨s1, e1, _, z1⟩ := DataW.trod_string Try.underlying9 t1
        simp only [List.cons.injEq, and_true] at e0 e1
        rw [e0] at c0 ⊢
        rw [e1] at c1 ⊢
        refine ⟨?_, ?_, z0, z1⟩
        · rw [← add_plain]; exact c0
        · rw [Nat.add_assoc, ← add_plain]; exact c1
      refine .inr ⟨b, o, m, (List.range len).map fun i => (vTx (V0 i), vTx (V1 i)), by simp, ?_, by simp; omega, ⟨World.block_lt_of_cell? _ _ (each 0 (by omega)).1, fun j hj => ?_⟩, fun x hx => ?_⟩
      · intro e; have := congrArg List.length e; simp at this; exact h0 this
      · have hj' : j < len := by simpa using hj
        simp
        exact ⟨(each j hj').1, (each j hj').2.1⟩
      · simp at hx
        obtain ⟨i, hi, rfl⟩ := hx
        exact ⟨(each i hi).2.2.1, (each i hi).2.2.2⟩
end Go.Proofs.Ytdinaphcglmhoaa
