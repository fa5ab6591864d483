/-
  path.Match: the steps of its proof that need no program.
-/
import Derived.Test.YtdinaphcglmhoaaDoorChunkP
import Derived.Lib.Bytealg
namespace Go.Proofs.YtdinaphcglmhoaaDoor
open Go.RowKit
set_option linter.unusedVariables false

def MR (p s : Bs) (b : Bool) : Prop := simP p → asciiB s = true → b = globP p s
def MI (p s q t : Bs) : Prop := simP p → asciiB s = true → simP q ∧ asciiB t = true ∧ globP q t = globP p s
def NI (p s q t : Bs) (k : Nat) : Prop := simP p → asciiB s = true → simP q ∧ asciiB t = true ∧ starG (fG q) (t.drop k) = globP p s ∧ fG q (t.drop k) = false
/-- what scanChunk tells -/
def ScR (q : Bs) (st : Bool) (ch rest : Bs) : Prop := simP q → st = decide (q[0]? = some 42) ∧ ch = chunkG q ∧ rest = restG q
/-- the chunk does not serve here -/
def NotAcc (ok : Bool) (t1 rest : Bs) : Prop := ok = false ∨ (t1 ≠ [] ∧ rest = [])

theorem simP_chunk {q : Bs} (h : simP q) : simP (chunkG q) := simP_sub h fun c hc => by
  unfold chunkG bodyG at hc
  exact (List.dropWhile_sublist _).subset ((List.takeWhile_sublist _).subset hc)
theorem simP_rest {q : Bs} (h : simP q) : simP (restG q) := simP_sub h fun c hc => by
  unfold restG bodyG at hc
  exact (List.dropWhile_sublist _).subset ((List.dropWhile_sublist _).subset hc)
theorem ascii_drop {t : Bs} (k : Nat) (h : asciiB t = true) : asciiB (t.drop k) = true := ascii_sub h fun c hc => List.mem_of_mem_drop hc
theorem chunk_suffix {ch t t1 : Bs} (h : chunkM ch t = some t1) (ha : asciiB t = true) : asciiB t1 = true := by
  obtain ⟨m, rfl, _⟩ := chunkM_dec h
  exact ascii_sub ha fun c hc => List.mem_append_right _ hc
theorem MI.start (p s : Bs) : MI p s p s := fun h ha => ⟨h, ha, rfl⟩
theorem MI.over {p s t : Bs} (h : MI p s [] t) : MR p s (decide (t.length = 0)) := fun hs ha => by rw [← M_end]; exact (h hs ha).2.2
theorem MI.stars {p s q t ch rest : Bs} (h : MI p s q t) (hsc : ScR q true ch rest) (hc : ch = []) : MR p s (decide (47 ∉ t)) := fun hs ha => by
  obtain ⟨h1, h2, h3⟩ := h hs ha
  obtain ⟨e1, e2, e3⟩ := hsc h1
  rw [← h3]
  exact (M_stars (of_decide_eq_true e1.symm) (by rw [← e2]; exact hc)).symm
theorem MI.acc {p s q t ch rest t1 : Bs} {st : Bool} {err : Value} (h : MI p s q t) (hsc : ScR q st ch rest) (hc : ChR ch t err true t1) (hacc : t1 = [] ∨ rest ≠ []) : MI p s rest t1 := fun hs ha => by
  obtain ⟨h1, h2, h3⟩ := h hs ha
  obtain ⟨e1, e2, e3⟩ := hsc h1
  subst e2; subst e3
  have hm := ((hc (simP_chunk h1)).2 h2).1 rfl
  refine ⟨simP_rest h1, chunk_suffix hm h2, ?_⟩
  rw [← h3]
  by_cases h42 : q[0]? = some 42
  · rw [M_start h42, M_take hm hacc]
  · rw [M_plain h42, M_takeP hm]
theorem notAcc_f {q t t1 : Bs} {ok : Bool} {err : Value} (h1 : simP q) (h2 : asciiB t = true) (hc : ChR (chunkG q) t err ok t1) (hn : NotAcc ok t1 (restG q)) : fG q t = false := by
  obtain ⟨_, hc2⟩ := hc (simP_chunk h1)
  cases ok
  · exact M_none ((hc2 h2).2 rfl)
  · rcases hn with h | ⟨h, h'⟩
    · cases h
    · exact M_left ((hc2 h2).1 rfl) h h'
theorem MI.no {p s q t ch rest t1 : Bs} {ok : Bool} {err : Value} (h : MI p s q t) (hsc : ScR q false ch rest) (hc : ChR ch t err ok t1) (hn : NotAcc ok t1 rest) : MR p s false := fun hs ha => by
  obtain ⟨h1, h2, h3⟩ := h hs ha
  obtain ⟨e1, e2, e3⟩ := hsc h1
  subst e2; subst e3
  rw [← h3, M_plain (of_decide_eq_false e1.symm), notAcc_f h1 h2 hc hn]
theorem NI.start {p s q t ch rest t1 : Bs} {ok : Bool} {err : Value} (h : MI p s q t) (hsc : ScR q true ch rest) (hc : ChR ch t err ok t1) (hn : NotAcc ok t1 rest) : NI p s q t 0 := fun hs ha => by
  obtain ⟨h1, h2, h3⟩ := h hs ha
  obtain ⟨e1, e2, e3⟩ := hsc h1
  subst e2; subst e3
  refine ⟨h1, h2, ?_, ?_⟩
  · rw [List.drop_zero, ← h3, M_start (of_decide_eq_true e1.symm)]
  · rw [List.drop_zero]; exact notAcc_f h1 h2 hc hn
theorem drop_cons {t : Bs} {k : Nat} {c : UInt8} (h : t[k]? = some c) : t.drop k = c :: t.drop (k + 1) := by
  have hk := (List.getElem?_eq_some_iff.1 h).1
  rw [List.drop_eq_getElem_cons hk]
  rw [List.getElem?_eq_getElem hk] at h
  injection h with h
  rw [h]
theorem NI.move {p s q t : Bs} {k : Nat} {c : UInt8} (h : NI p s q t k) (hk : t[k]? = some c) (hc : c ≠ 47) (hs : simP p) (ha : asciiB s = true) : starG (fG q) (t.drop (k + 1)) = globP p s := by
  obtain ⟨h1, h2, h3, h4⟩ := h hs ha
  rw [drop_cons hk] at h3 h4
  rw [← h3, starG_step h4 hc]
theorem NI.step {p s q t ch rest t1 : Bs} {st ok : Bool} {err : Value} {k : Nat} {c : UInt8} (h : NI p s q t k) (hsc : ScR q st ch rest) (hk : t[k]? = some c) (hc47 : c ≠ 47) (hc : ChR ch (t.drop (k + 1)) err ok t1) (hn : NotAcc ok t1 rest) : NI p s q t (k + 1) := fun hs ha => by
  obtain ⟨h1, h2, h3, h4⟩ := h hs ha
  obtain ⟨e1, e2, e3⟩ := hsc h1
  subst e2; subst e3
  exact ⟨h1, h2, h.move hk hc47 hs ha, notAcc_f h1 (ascii_drop _ h2) hc hn⟩
theorem NI.acc {p s q t ch rest t1 : Bs} {st : Bool} {err : Value} {k : Nat} {c : UInt8} (h : NI p s q t k) (hsc : ScR q st ch rest) (hk : t[k]? = some c) (hc47 : c ≠ 47) (hc : ChR ch (t.drop (k + 1)) err true t1) (hacc : t1 = [] ∨ rest ≠ []) : MI p s rest t1 := fun hs ha => by
  obtain ⟨h1, h2, h3, h4⟩ := h hs ha
  obtain ⟨e1, e2, e3⟩ := hsc h1
  subst e2; subst e3
  have hm := ((hc (simP_chunk h1)).2 (ascii_drop _ h2)).1 rfl
  refine ⟨simP_rest h1, chunk_suffix hm (ascii_drop _ h2), ?_⟩
  rw [← h.move hk hc47 hs ha, M_take hm hacc]
theorem NI.stop {p s q t : Bs} {k : Nat} (h : NI p s q t k) (hk : t.length ≤ k ∨ t[k]? = some 47) : MR p s false := fun hs ha => by
  obtain ⟨h1, h2, h3, h4⟩ := h hs ha
  rw [← h3, starG_stop h4]
  rcases hk with hk | hk
  · exact .inl (List.drop_of_length_le hk)
  · right; rw [drop_cons hk]; rfl
theorem MI.err {p s q t ch rest t1 t2 : Bs} {st ok : Bool} {err : Value} {b : Bool} (h : MI p s q t) (hsc : ScR q st ch rest) (hc : ChR ch t2 err ok t1) (he : err ≠ .nilIface) : MR p s b := fun hs ha => by
  obtain ⟨h1, h2, h3⟩ := h hs ha
  obtain ⟨e1, e2, e3⟩ := hsc h1
  subst e2
  exact absurd (hc (simP_chunk h1)).1 he

theorem idx_neg (l : Bs) (c : UInt8) : Lib.indexByte l c < 0 ↔ c ∉ l := by
  induction l with
  | nil => simp [Lib.indexByte]
  | cons b l ih =>
    simp only [Lib.indexByte]
    by_cases hb : b = c
    · subst hb; simp
    · have e : (b == c) = false := by simpa using hb
      rw [e]
      simp only [Bool.false_eq_true, if_false, List.mem_cons, not_or]
      have hge : ∀ l : Bs, -1 ≤ Lib.indexByte l c := by
        intro l
        induction l with
        | nil => simp [Lib.indexByte]
        | cons x l ih2 =>
          simp only [Lib.indexByte]
          split
          · omega
          · split
            · omega
            · omega
      by_cases h1 : Lib.indexByte l c = -1
      · rw [if_pos (by simpa using h1)]
        constructor
        · intro _; exact ⟨fun e => hb e.symm, ih.1 (by omega)⟩
        · intro _; omega
      · rw [if_neg (by simpa using h1)]
        have := hge l
        constructor
        · intro h; omega
        · rintro ⟨_, h⟩
          have := ih.2 h
          omega
end Go.Proofs.YtdinaphcglmhoaaDoor
