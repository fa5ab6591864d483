/-
  The list of patterns: plain part.
-/
import Derived.Test.YtdinaphcglmhoaaDoorGlobP
namespace Go.Proofs.YtdinaphcglmhoaaDoor
open Go.RowKit

theorem cutL_join (a b : Bs) : cutL (a ++ 44 :: b) 44 = cutL a 44 ++ cutL b 44 := by
  induction a with
  | nil => simp [cutL]
  | cons c a ih =>
    rw [List.cons_append]
    simp only [cutL, ih]
    split
    · simp
    · cases h : cutL a 44 with
      | nil => exact absurd h (cutL_ne a 44)
      | cons x t => simp
theorem cutL_one {p : Bs} (h : 44 ∉ p) : cutL p 44 = [p] := by
  induction p with
  | nil => rfl
  | cons c p ih =>
    simp only [List.mem_cons, not_or] at h
    simp only [cutL, ih h.2]
    rw [if_neg (fun e => h.1 e.symm)]
theorem anyG_nil (t : Bs) : ¬ AnyG [] t := by
  rintro ⟨p, hp, h1, _⟩
  simp [cutL] at hp
  subst hp
  exact h1 rfl
theorem anyG_last {p : Bs} (t : Bs) (h : 44 ∉ p) : AnyG p t ↔ OkP p t := by
  unfold AnyG
  rw [cutL_one h]
  simp
theorem anyG_join (a b t : Bs) : AnyG (a ++ 44 :: b) t ↔ AnyG a t ∨ AnyG b t := by
  unfold AnyG
  rw [cutL_join]
  constructor
  · rintro ⟨p, hp, h⟩
    rcases List.mem_append.1 hp with hp | hp
    · exact .inl ⟨p, hp, h⟩
    · exact .inr ⟨p, hp, h⟩
  · rintro (⟨p, hp, h⟩ | ⟨p, hp, h⟩)
    · exact ⟨p, List.mem_append_left _ hp, h⟩
    · exact ⟨p, List.mem_append_right _ hp, h⟩
theorem anyG_cut {p : Bs} (r t : Bs) (h : 44 ∉ p) : AnyG (p ++ 44 :: r) t ↔ OkP p t ∨ AnyG r t := by
  rw [anyG_join, anyG_last t h]

/-! ## with more -/
theorem deeper1 {g t : Bs} (m : Bs) (h : AnyG g t) : AnyG g (t ++ 47 :: m) := by
  obtain ⟨p, hp, h1, h2⟩ := h
  exact ⟨p, hp, h1, okAt_more m h2⟩
theorem deeper2 {g t : Bs} (m : Bs) (h : AnyG g t) : AnyG (g ++ 44 :: m) t := (anyG_join g m t).2 (.inl h)
theorem deeper3 {g t : Bs} (m : Bs) (h : AnyG g t) : AnyG (m ++ 44 :: 44 :: g) t := by
  refine (anyG_join m (44 :: g) t).2 (.inr ?_)
  have := (anyG_join [] g t).2 (.inr h)
  simpa using this

theorem suf47 (p : Bs) : sufB [47] p = true ↔ ∃ q, p = q ++ [47] := by
  unfold sufB
  rw [Bool.and_eq_true, decide_eq_true_eq, beq_iff_eq]
  constructor
  · rintro ⟨_, h⟩
    exact ⟨p.take (p.length - 1), by
      have := List.take_append_drop (p.length - 1) p
      rw [show p.length - [(47 : UInt8)].length = p.length - 1 from rfl] at h
      rw [h] at this
      exact this.symm⟩
  · rintro ⟨q, rfl⟩
    refine ⟨by simp, ?_⟩
    have : (q ++ [47]).length - [(47 : UInt8)].length = q.length := by simp
    rw [this, List.drop_left]
theorem trimS_snoc (q : Bs) : trimS (q ++ [47]) = q := by
  unfold trimS
  rw [if_pos ((suf47 _).2 ⟨q, rfl⟩)]
  simp
def dbl (p : Bs) : Prop := ∃ q, p = q ++ [47, 47]
def pieceOk (p : Bs) : Prop := p ≠ [47] ∧ ¬ dbl p
theorem deeper4 {g t : Bs} (hp : ∀ p ∈ cutL (g ++ [47]) 44, pieceOk p) (h : AnyG g t) : AnyG (g ++ [47]) t := by
  obtain ⟨outs, cur, e⟩ : ∃ outs cur, cutL g 44 = outs ++ [cur] :=
    ⟨(cutL g 44).dropLast, (cutL g 44).getLast (cutL_ne g 44), (List.dropLast_concat_getLast _).symm⟩
  have e2 := cutL_miss g 44 47 (by decide) outs cur e
  obtain ⟨p, hpm, h1, h2⟩ := h
  rw [e] at hpm
  rcases List.mem_append.1 hpm with hm | hm
  · exact ⟨p, by rw [e2]; exact List.mem_append_left _ hm, h1, h2⟩
  · have hc : p = cur := by simpa using hm
    subst hc
    have hin : p ++ [47] ∈ cutL (g ++ [47]) 44 := by rw [e2]; simp
    have hk := hp _ hin
    refine ⟨p ++ [47], hin, ?_⟩
    have hns : ¬ sufB [47] p = true := by
      intro hs
      obtain ⟨q, rfl⟩ := (suf47 p).1 hs
      exact hk.2 ⟨q, by simp⟩
    have ht : trimS p = p := by unfold trimS; rw [if_neg hns]
    unfold OkP
    rw [trimS_snoc]
    rw [ht] at h1 h2
    exact ⟨h1, h2⟩

/-- what spec.Prefix tells where it tells something -/
def simP (p : Bs) : Prop := 91 ∉ p ∧ 92 ∉ p
def CG (g t : Bs) : Prop := simP g ∧ asciiB t = true
def PrefOk (g t : Bs) : Prop := CG g t ∧ g.length ≤ 60 ∧ t.length ≤ 60 ∧ ∀ p ∈ cutL g 44, pieceOk p
def PrefR (g t : Bs) (n : Int) : Prop := n = 0 ∨ (PrefOk g t ∧ ((n = 1 ∧ AnyG g t) ∨ (n = 2 ∧ ¬ AnyG g t)))
theorem simP_app {a b : Bs} (h1 : simP a) (h2 : simP b) : simP (a ++ b) := ⟨by simp [h1.1, h2.1], by simp [h1.2, h2.2]⟩
theorem simP_sub {a b : Bs} (h : simP b) (hs : ∀ c ∈ a, c ∈ b) : simP a := ⟨fun e => h.1 (hs _ e), fun e => h.2 (hs _ e)⟩
theorem ascii_app {a b : Bs} (h1 : asciiB a = true) (h2 : asciiB b = true) : asciiB (a ++ b) = true := by
  unfold asciiB at *; rw [List.all_append, h1, h2]; rfl
theorem ascii_sub {a b : Bs} (h : asciiB b = true) (hs : ∀ c ∈ a, c ∈ b) : asciiB a = true := by
  unfold asciiB at *; rw [List.all_eq_true] at *; exact fun c hc => h c (hs c hc)
end Go.Proofs.YtdinaphcglmhoaaDoor
