/-
  spec.glob, path.Match, MatchPrefixPatterns on lists of bytes: plain part. 42 is the star, 63 the question mark, 47 the stroke, 44 the comma.
-/
import Derived.Test.YtdinaphcglmhoaaDoorSmallP
import Derived.Test.YtdinaphcglmhoaaDoorSufP
namespace Go.Proofs.YtdinaphcglmhoaaDoor
open Go.RowKit

def starG (f : Bs → Bool) : Bs → Bool
  | [] => f []
  | c :: cs => f (c :: cs) || (c != 47 && starG f cs)
def oneB (p c : UInt8) : Bool := (p == 63 && c != 47) || p == c
def globP : Bs → Bs → Bool
  | [], s => s.isEmpty
  | p :: ps, s => if p = 42 then starG (globP ps) s else match s with
    | [] => false
    | c :: cs => oneB p c && globP ps cs
def chunkM : Bs → Bs → Option Bs
  | [], s => some s
  | _ :: _, [] => none
  | p :: ps, c :: cs => if oneB p c then chunkM ps cs else none

theorem globP_star (ps s : Bs) : globP (42 :: ps) s = starG (globP ps) s := by simp [globP]
theorem globP_nil (s : Bs) : globP [] s = s.isEmpty := by simp [globP]
theorem globP_no {p : UInt8} (ps : Bs) (h : p ≠ 42) : globP (p :: ps) [] = false := by simp [globP, h]
theorem globP_one {p : UInt8} (ps : Bs) (c : UInt8) (cs : Bs) (h : p ≠ 42) : globP (p :: ps) (c :: cs) = (oneB p c && globP ps cs) := by simp [globP, h]

theorem starG_iff (f : Bs → Bool) (s : Bs) : starG f s = true ↔ ∃ u v, s = u ++ v ∧ 47 ∉ u ∧ f v = true := by
  induction s with
  | nil =>
    simp only [starG]
    constructor
    · intro h; exact ⟨[], [], rfl, by simp, h⟩
    · rintro ⟨u, v, h, _, hv⟩
      obtain ⟨rfl, rfl⟩ := List.append_eq_nil_iff.1 h.symm
      exact hv
  | cons c cs ih =>
    simp only [starG, Bool.or_eq_true, Bool.and_eq_true, bne_iff_ne, ne_eq]
    rw [ih]
    constructor
    · rintro (h | ⟨hc, u, v, rfl, hu, hv⟩)
      · exact ⟨[], c :: cs, rfl, by simp, h⟩
      · refine ⟨c :: u, v, rfl, ?_, hv⟩
        simp only [List.mem_cons, not_or]
        exact ⟨fun e => hc e.symm, hu⟩
    · rintro ⟨u, v, h, hu, hv⟩
      cases u with
      | nil => left; rw [List.nil_append] at h; rw [h]; exact hv
      | cons d u =>
        rw [List.cons_append] at h
        injection h with h1 h2
        subst h1; subst h2
        simp only [List.mem_cons, not_or] at hu
        exact .inr ⟨fun e => hu.1 e.symm, u, v, rfl, hu.2, hv⟩
theorem starG_star (f : Bs → Bool) (s : Bs) : starG (starG f) s = starG f s := by
  rw [Bool.eq_iff_iff, starG_iff]
  constructor
  · rintro ⟨u, v, rfl, hu, hv⟩
    obtain ⟨u', v', rfl, hu', hv'⟩ := (starG_iff f v).1 hv
    exact (starG_iff f _).2 ⟨u ++ u', v', by simp, by simp [hu, hu'], hv'⟩
  · intro h
    exact ⟨[], s, rfl, by simp, h⟩
theorem starG_self {f : Bs → Bool} {s : Bs} (h : f s = true) : starG f s = true := (starG_iff f s).2 ⟨[], s, rfl, by simp, h⟩
theorem starG_step {f : Bs → Bool} {c : UInt8} {cs : Bs} (h : f (c :: cs) = false) (hc : c ≠ 47) : starG f (c :: cs) = starG f cs := by
  simp [starG, h, hc]
theorem starG_stop {f : Bs → Bool} {s : Bs} (h : f s = false) (hs : s = [] ∨ s[0]? = some 47) : starG f s = false := by
  cases s with
  | nil => simpa [starG] using h
  | cons c cs =>
    rcases hs with hs | hs
    · cases hs
    · simp at hs; subst hs; simpa [starG] using h

theorem oneB_slash {p c : UInt8} (h : oneB p c = true) : c = 47 ↔ p = 47 := by
  simp only [oneB, Bool.or_eq_true, Bool.and_eq_true, beq_iff_eq, bne_iff_ne, ne_eq] at h
  constructor
  · rintro rfl
    rcases h with ⟨_, h⟩ | h
    · exact absurd rfl h
    · exact h
  · rintro rfl
    rcases h with ⟨h, _⟩ | h
    · exact absurd h (by decide)
    · exact h.symm
theorem chunkM_dec {ch s t : Bs} (h : chunkM ch s = some t) : ∃ m : Bs, s = m ++ t ∧ m.length = ch.length ∧ ∀ i : Nat, m[i]? = some 47 ↔ ch[i]? = some 47 := by
  induction ch generalizing s with
  | nil => simp only [chunkM, Option.some.injEq] at h; subst h; exact ⟨[], rfl, rfl, fun i => by simp⟩
  | cons p ps ih =>
    cases s with
    | nil => simp [chunkM] at h
    | cons c cs =>
      simp only [chunkM] at h
      split at h
      · rename_i ho
        obtain ⟨m, rfl, hl, hm⟩ := ih h
        refine ⟨c :: m, rfl, by simp [hl], fun i => ?_⟩
        cases i with
        | zero => simp; exact oneB_slash ho
        | succ i => simpa using hm i
      · cases h
theorem glob_chunk {ch : Bs} (rest s : Bs) (h : 42 ∉ ch) : globP (ch ++ rest) s = match chunkM ch s with | none => false | some t => globP rest t := by
  induction ch generalizing s with
  | nil => simp [chunkM]
  | cons p ps ih =>
    simp only [List.mem_cons, not_or] at h
    have hp : p ≠ 42 := fun e => h.1 e.symm
    rw [List.cons_append]
    cases s with
    | nil => rw [globP_no _ hp]; rfl
    | cons c cs =>
      rw [globP_one _ _ _ hp]
      simp only [chunkM]
      cases ho : oneB p c with
      | true => simp [ih cs h.2]
      | false => simp

/-- the greedy step: where a chunk matches, its first place serves -/
theorem greedy {ch s t r : Bs} (h : 42 ∉ ch) (hm : chunkM ch s = some t) : starG (globP (ch ++ 42 :: r)) s = globP (42 :: r) t := by
  rw [Bool.eq_iff_iff]
  constructor
  · intro hs
    obtain ⟨u, v, rfl, hu, hv⟩ := (starG_iff _ _).1 hs
    rw [glob_chunk _ _ h] at hv
    cases hv' : chunkM ch v with
    | none => rw [hv'] at hv; cases hv
    | some t' =>
      rw [hv'] at hv
      have hv : globP (42 :: r) t' = true := hv
      rw [globP_star] at hv ⊢
      obtain ⟨u', v', rfl, hu', hg⟩ := (starG_iff _ _).1 hv
      obtain ⟨m, e1, hml, hm1⟩ := chunkM_dec hm
      obtain ⟨m', rfl, hml', hm2⟩ := chunkM_dec hv'
      -- s = u ++ (m' ++ (u' ++ v')) = m ++ t
      have hcl : ∀ i : Nat, ch[i]? ≠ some 47 ∨ u = [] := by
        intro i
        by_cases hd : u = []
        · exact .inr hd
        · left
          have hd' : 0 < u.length := List.length_pos_iff.2 hd
          induction i using Nat.strongRecOn with
          | _ i ih =>
            intro hc
            have hi : i < ch.length := (List.getElem?_eq_some_iff.1 hc).1
            have h1 := (hm1 i).2 hc
            have h2 : (u ++ (m' ++ (u' ++ v')))[i]? = some 47 := by
              rw [e1, List.getElem?_append_left (by omega)]; exact h1
            by_cases hiu : i < u.length
            · rw [List.getElem?_append_left hiu] at h2
              exact hu (List.mem_of_getElem? h2)
            · rw [List.getElem?_append_right (by omega), List.getElem?_append_left (by omega)] at h2
              exact ih (i - u.length) (by omega) ((hm2 _).1 h2)
      have et : t = (u ++ (m' ++ (u' ++ v'))).drop ch.length := by
        rw [e1, ← hml, List.drop_left]
      have et2 : t = (u ++ m').drop ch.length ++ (u' ++ v') := by
        rw [et, ← List.append_assoc, List.drop_append_of_le_length (by simp; omega)]
      refine (starG_iff _ _).2 ⟨(u ++ m').drop ch.length ++ u', v', by rw [et2]; simp, ?_, hg⟩
      rw [List.mem_append, not_or]
      refine ⟨fun hin => ?_, hu'⟩
      obtain ⟨i, hi⟩ := List.getElem?_of_mem hin
      rw [List.getElem?_drop] at hi
      by_cases hiu : ch.length + i < u.length
      · rw [List.getElem?_append_left hiu] at hi
        exact hu (List.mem_of_getElem? hi)
      · rw [List.getElem?_append_right (by omega)] at hi
        rcases hcl (ch.length + i - u.length) with h0 | h0
        · exact h0 ((hm2 _).1 hi)
        · subst h0
          have : ch.length + i < m'.length := by
            have := (List.getElem?_eq_some_iff.1 hi).1
            simpa using this
          omega
  · intro hg
    refine starG_self ?_
    rw [glob_chunk _ _ h, hm]
    exact hg

/-! ## the pieces of a pattern -/
def ns (c : UInt8) : Bool := c != 42
def bodyG (p : Bs) : Bs := p.dropWhile (· == 42)
def chunkG (p : Bs) : Bs := (bodyG p).takeWhile ns
def restG (p : Bs) : Bs := (bodyG p).dropWhile ns

theorem tw_all (f : UInt8 → Bool) (l : Bs) : ∀ c ∈ l.takeWhile f, f c = true := by
  induction l with
  | nil => simp
  | cons d r ih =>
    intro c hc
    rw [List.takeWhile_cons] at hc
    split at hc
    · rename_i hd
      rcases List.mem_cons.1 hc with rfl | hc
      · exact hd
      · exact ih c hc
    · cases hc
theorem chunkG_no (p : Bs) : 42 ∉ chunkG p := by
  intro h
  have := tw_all ns (bodyG p) _ h
  simp [ns] at this
theorem body_eq (p : Bs) : bodyG p = chunkG p ++ restG p := List.takeWhile_append_dropWhile.symm
theorem rest_head (p : Bs) : restG p = [] ∨ ∃ r, restG p = 42 :: r := by
  cases h : restG p with
  | nil => exact .inl rfl
  | cons c r =>
    right
    have := List.head?_dropWhile_not ns (bodyG p)
    unfold restG at h
    rw [h] at this
    simp [ns] at this
    exact ⟨r, by rw [this]⟩
theorem glob_head (p : Bs) : p[0]? = some 42 → ∀ s, globP p s = starG (globP (bodyG p)) s := by
  induction p with
  | nil => intro h; simp at h
  | cons c ps ih =>
    intro h s
    simp at h; subst h
    rw [globP_star]
    have eb : bodyG (42 :: ps) = bodyG ps := by simp [bodyG]
    rw [eb]
    cases ps with
    | nil => rfl
    | cons d qs =>
      by_cases hd : d = 42
      · have e : globP (d :: qs) = starG (globP (bodyG (d :: qs))) := funext (ih (by rw [hd]; rfl))
        rw [e, starG_star]
      · have e2 : bodyG (d :: qs) = d :: qs := by simp [bodyG, hd]
        rw [e2]
theorem body_id {p : Bs} (h : p[0]? ≠ some 42) : bodyG p = p := by
  cases p with
  | nil => rfl
  | cons c ps => simp at h; simp [bodyG, h]
theorem chunk_nil {p : Bs} (h : chunkG p = []) : bodyG p = [] := by
  have e := body_eq p
  rw [h, List.nil_append] at e
  rcases rest_head p with hr | ⟨r, hr⟩
  · rw [e, hr]
  · exfalso
    have hb : bodyG p = 42 :: r := e.trans hr
    have := List.head?_dropWhile_not (· == (42 : UInt8)) p
    unfold bodyG at hb
    rw [hb] at this
    simp at this

/-! ## the steps of path.Match -/
theorem M_end (s : Bs) : globP [] s = decide (s.length = 0) := by rw [globP_nil]; cases s <;> simp
theorem M_stars {p s : Bs} (h : p[0]? = some 42) (hc : chunkG p = []) : globP p s = decide (47 ∉ s) := by
  rw [glob_head p h, chunk_nil hc, Bool.eq_iff_iff, starG_iff]
  constructor
  · rintro ⟨u, v, rfl, hu, hv⟩
    rw [globP_nil, List.isEmpty_iff] at hv
    subst hv
    simpa using hu
  · intro h
    exact ⟨s, [], by simp, by simpa using h, rfl⟩
/-- the pattern behind the stars -/
def fG (p : Bs) : Bs → Bool := globP (bodyG p)
theorem fG_eq (p s : Bs) : fG p s = match chunkM (chunkG p) s with | none => false | some t => globP (restG p) t := by
  unfold fG
  rw [body_eq p]
  exact glob_chunk _ _ (chunkG_no p)
theorem M_start {p s : Bs} (h : p[0]? = some 42) : globP p s = starG (fG p) s := glob_head p h s
theorem M_plain {p s : Bs} (h : p[0]? ≠ some 42) : globP p s = fG p s := by unfold fG; rw [body_id h]
theorem M_take {p s t : Bs} (hm : chunkM (chunkG p) s = some t) (ha : t = [] ∨ restG p ≠ []) : starG (fG p) s = globP (restG p) t := by
  rcases rest_head p with hr | ⟨r, hr⟩
  · rcases ha with rfl | ha
    · rw [hr]
      have : fG p s = true := by rw [fG_eq, hm, hr]; rfl
      rw [starG_self this]; rfl
    · exact absurd hr ha
  · rw [hr]
    unfold fG
    rw [body_eq p, hr]
    exact greedy (chunkG_no p) hm
theorem M_takeP {p s t : Bs} (hm : chunkM (chunkG p) s = some t) : fG p s = globP (restG p) t := by rw [fG_eq, hm]
theorem M_none {p s : Bs} (hm : chunkM (chunkG p) s = none) : fG p s = false := by rw [fG_eq, hm]
theorem M_left {p s t : Bs} (hm : chunkM (chunkG p) s = some t) (ht : t ≠ []) (hr : restG p = []) : fG p s = false := by
  rw [fG_eq, hm, hr]
  show globP [] t = false
  rw [globP_nil]
  cases t with
  | nil => exact absurd rfl ht
  | cons c t => rfl

/-! ## how many strokes -/
theorem oneB_count {p c : UInt8} (h : oneB p c = true) : (if c = 47 then 1 else 0) = (if p = 47 then 1 else 0) := by
  by_cases hp : p = 47
  · rw [if_pos hp, if_pos ((oneB_slash h).2 hp)]
  · rw [if_neg hp, if_neg (fun e => hp ((oneB_slash h).1 e))]
theorem glob_count {p : Bs} : ∀ {s : Bs}, globP p s = true → s.count 47 = p.count 47 := by
  induction p with
  | nil => intro s h; rw [globP_nil, List.isEmpty_iff] at h; subst h; rfl
  | cons c ps ih =>
    intro s h
    by_cases hc : c = 42
    · subst hc
      rw [globP_star] at h
      obtain ⟨u, v, rfl, hu, hv⟩ := (starG_iff _ _).1 h
      rw [List.count_append, List.count_eq_zero.2 hu, ih hv, List.count_cons]; simp
    · cases s with
      | nil => rw [globP_no _ hc] at h; cases h
      | cons d s =>
        rw [globP_one _ _ _ hc, Bool.and_eq_true] at h
        rw [List.count_cons, List.count_cons, ih h.2]
        have := oneB_count h.1
        simp only [beq_iff_eq]
        omega

/-- a beginning of the target that ends at a stroke or with it matches -/
def OkAt (p t : Bs) : Prop := ∃ i, i ≤ t.length ∧ (i = t.length ∨ t[i]? = some 47) ∧ globP p (t.take i) = true
theorem count_lt {t : Bs} {i k : Nat} (h : i < k) (hi : t[i]? = some 47) : (t.take i).count 47 < (t.take k).count 47 := by
  have hil : i < t.length := (List.getElem?_eq_some_iff.1 hi).1
  have e : t.take (i + 1) = t.take i ++ [47] := by
    rw [List.take_add_one, hi]; rfl
  have h1 : (t.take (i + 1)).count 47 = (t.take i).count 47 + 1 := by rw [e, List.count_append]; rfl
  have h2 : (t.take (i + 1)).count 47 ≤ (t.take k).count 47 := by
    have : t.take (i + 1) = (t.take k).take (i + 1) := by rw [List.take_take, Nat.min_eq_left (by omega)]
    rw [this]
    exact (List.take_sublist _ _).count_le _
  omega
theorem okAt_iff {p t : Bs} {k : Nat} (hk : k ≤ t.length) (hb : k = t.length ∨ t[k]? = some 47) (hc : (t.take k).count 47 = p.count 47) : OkAt p t ↔ globP p (t.take k) = true := by
  constructor
  · rintro ⟨i, hi, hib, hg⟩
    have hgc := glob_count hg
    rcases Nat.lt_trichotomy i k with h | h | h
    · rcases hib with rfl | hib
      · omega
      · have := count_lt h hib; omega
    · rw [← h]; exact hg
    · rcases hb with rfl | hb
      · omega
      · have := count_lt h hb; omega
  · intro h; exact ⟨k, hk, hb, h⟩
theorem okAt_no {p t : Bs} (h : t.count 47 < p.count 47) : ¬ OkAt p t := by
  rintro ⟨i, hi, hib, hg⟩
  have := glob_count hg
  have h2 : (t.take i).count 47 ≤ t.count 47 := (List.take_sublist _ _).count_le _
  omega
theorem okAt_more {p t : Bs} (m : Bs) (h : OkAt p t) : OkAt p (t ++ 47 :: m) := by
  obtain ⟨i, hi, hib, hg⟩ := h
  refine ⟨i, by simp; omega, .inr ?_, by rw [List.take_append_of_le_length hi]; exact hg⟩
  rcases hib with rfl | hib
  · rw [List.getElem?_append_right (Nat.le_refl _)]; simp
  · rw [List.getElem?_append_left (List.getElem?_eq_some_iff.1 hib).1]; exact hib

/-! ## the list of patterns -/
def trimS (p : Bs) : Bs := if sufB [47] p = true then p.take (p.length - 1) else p
def OkP (p t : Bs) : Prop := trimS p ≠ [] ∧ OkAt (trimS p) t
def AnyG (g t : Bs) : Prop := ∃ p ∈ cutL g 44, OkP p t
end Go.Proofs.YtdinaphcglmhoaaDoor
