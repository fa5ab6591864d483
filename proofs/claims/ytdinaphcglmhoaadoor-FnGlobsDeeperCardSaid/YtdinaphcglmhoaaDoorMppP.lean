/-
  MatchPrefixPatterns: the steps of its proof that need no program.
-/
import Derived.Test.YtdinaphcglmhoaaDoorMatchP
namespace Go.Proofs.YtdinaphcglmhoaaDoor
open Go.RowKit
set_option linter.unusedVariables false

def MpR (g t : Bs) (b : Bool) : Prop := CG g t → (b = true ↔ AnyG g t)
def PI (g0 t g : Bs) : Prop := CG g0 t → simP g ∧ (AnyG g0 t ↔ AnyG g t)
def SplitG (g q r : Bs) : Prop := 44 ∉ q ∧ ((g = q ++ 44 :: r) ∨ (g = q ∧ r = []))
theorem any_split {g q r t : Bs} (h : SplitG g q r) : AnyG g t ↔ OkP q t ∨ AnyG r t := by
  obtain ⟨hn, rfl | ⟨rfl, rfl⟩⟩ := h
  · exact anyG_cut r t hn
  · rw [anyG_last t hn]
    constructor
    · exact .inl
    · rintro (h | h)
      · exact h
      · exact absurd h (anyG_nil t)
theorem SplitG.sub {g q r : Bs} (h : SplitG g q r) (hs : simP g) : simP q ∧ simP r := by
  obtain ⟨hn, rfl | ⟨rfl, rfl⟩⟩ := h
  · exact ⟨simP_sub hs (fun c hc => by simp [hc]), simP_sub hs (fun c hc => by simp [hc])⟩
  · exact ⟨hs, by simp [simP]⟩
theorem PI.start (g t : Bs) : PI g t g := fun h => ⟨h.1, Iff.rfl⟩
theorem PI.stop {g0 t : Bs} (h : PI g0 t []) : MpR g0 t false := fun hc => by
  rw [(h hc).2]
  constructor
  · intro h; cases h
  · intro h; exact absurd h (anyG_nil t)
theorem PI.next {g0 t g q r : Bs} (h : PI g0 t g) (hs : SplitG g q r) (hn : CG g0 t → ¬ OkP q t) : PI g0 t r := fun hc => by
  obtain ⟨h1, h2⟩ := h hc
  refine ⟨(hs.sub h1).2, ?_⟩
  rw [h2, any_split hs]
  constructor
  · rintro (h | h)
    · exact absurd h (hn hc)
    · exact h
  · exact .inr
theorem PI.yes {g0 t g q r : Bs} (h : PI g0 t g) (hs : SplitG g q r) (hn : CG g0 t → OkP q t) : MpR g0 t true := fun hc => by
  obtain ⟨h1, h2⟩ := h hc
  rw [h2, any_split hs]
  exact ⟨fun _ => .inl (hn hc), fun _ => rfl⟩
theorem simP_trim {q : Bs} (h : simP q) : simP (trimS q) := simP_sub h fun c hc => by
  unfold trimS at hc
  split at hc
  · exact List.mem_of_mem_take hc
  · exact hc
theorem okP_empty {q t : Bs} (h : trimS q = []) : ¬ OkP q t := fun e => e.1 h
theorem okP_few {q t : Bs} (h : t.count 47 < (trimS q).count 47) : ¬ OkP q t := fun e => okAt_no h e.2
/-- what path.Match says at the beginning with as many strokes -/
theorem okP_at {g0 t g q r : Bs} {k : Nat} {b : Bool} (h : PI g0 t g) (hs : SplitG g q r) (hk : k ≤ t.length) (hb : k = t.length ∨ t[k]? = some 47) (hc : (t.take k).count 47 = (trimS q).count 47) (hne : trimS q ≠ []) (hm : MR (trimS q) (t.take k) b) :
    CG g0 t → (b = true ↔ OkP q t) := fun hcg => by
  obtain ⟨h1, _⟩ := h hcg
  rw [hm (simP_trim (hs.sub h1).1) (ascii_sub hcg.2 (fun c hc => List.mem_of_mem_take hc))]
  unfold OkP
  rw [okAt_iff hk hb hc]
  exact ⟨fun h => ⟨hne, h⟩, fun h => h.2⟩
end Go.Proofs.YtdinaphcglmhoaaDoor
