/-
  spec.Split, spec.gopkg: plain part: what a fine answer tells.
-/
import Derived.Test.YtdinaphcglmhoaaSmallP
namespace Go.Proofs.Ytdinaphcglmhoaa
open Go.RowKit

/-- the last piece is the text's end, without the byte that parts -/
theorem cutL_last (l : Bs) (b : UInt8) (outs : List Bs) (x : Bs) (h : cutL l b = outs ++ [x]) : (∃ pre, l = pre ++ x ∧ (outs ≠ [] → ∃ q, pre = q ++ [b]) ∧ (outs = [] → pre = [])) ∧ b ∉ x := by
  induction l generalizing outs x with
  | nil =>
    simp only [cutL] at h
    cases outs with
    | nil => simp at h; subst h; exact ⟨⟨[], rfl, by simp, by simp⟩, by simp⟩
    | cons y t => simp at h
  | cons c r ih =>
    simp only [cutL] at h
    split at h
    · rename_i hc
      cases outs with
      | nil => simp at h; exact absurd h.2 (cutL_ne r b)
      | cons y t =>
        simp at h
        obtain ⟨⟨pre, h1, h2, h3⟩, h4⟩ := ih t x h.2
        refine ⟨⟨c :: pre, by rw [h1]; rfl, fun _ => ?_, by simp⟩, h4⟩
        by_cases ht : t = []
        · rw [h3 ht]; exact ⟨[], by simp [hc]⟩
        · obtain ⟨q, hq⟩ := h2 ht; exact ⟨c :: q, by rw [hq]; rfl⟩
    · rename_i hc
      cases hr : cutL r b with
      | nil => exact absurd hr (cutL_ne r b)
      | cons y t =>
        rw [hr] at h
        simp only at h
        cases outs with
        | nil =>
          simp at h
          obtain ⟨h5, h6⟩ := h
          subst h6
          obtain ⟨⟨pre, h1, _, h3⟩, h4⟩ := ih [] y (by simpa using hr)
          have : r = y := by rw [h1, h3 rfl]; rfl
          subst this
          subst h5
          exact ⟨⟨[], rfl, by simp, by simp⟩, by simp; exact ⟨fun h => hc h.symm, h4⟩⟩
        | cons z t' =>
          simp at h
          obtain ⟨⟨pre, h1, h2, _⟩, h4⟩ := ih (y :: t') x (by rw [hr, h.2]; rfl)
          obtain ⟨q, hq⟩ := h2 (by simp)
          exact ⟨⟨c :: pre, by rw [h1]; rfl, fun _ => ⟨c :: q, by rw [hq]; rfl⟩, by simp⟩, h4⟩

theorem cutL_get_last (l : Bs) (b : UInt8) : ∃ outs, cutL l b = outs ++ [(cutL l b)[(cutL l b).length - 1]'(by have := List.length_pos_iff.2 (cutL_ne l b); omega)] := by
  have h := cutL_ne l b
  refine ⟨(cutL l b).dropLast, ?_⟩
  have := List.dropLast_concat_getLast h
  rw [List.getLast_eq_getElem] at this
  exact this.symm

/-- a byte of a version at the end: a figure or a dot -/
def isDD (c : UInt8) : Bool := (decide (48 ≤ (c.toNat : Int)) && decide ((c.toNat : Int) ≤ 57)) || decide ((c.toNat : Int) = 46)
def isD (c : UInt8) : Bool := decide (48 ≤ (c.toNat : Int)) && decide ((c.toNat : Int) ≤ 57)

/-- l ends with /v and figures or dots -/
def VerEnd (l pre ds : Bs) : Prop := l = pre ++ [47, 118] ++ ds ∧ ds ≠ [] ∧ ∀ c ∈ ds, isDD c = true
def gop : Bs := [103, 111, 112, 107, 103, 46, 105, 110, 47]

def GoFine (l v : Bs) : Prop := ∃ pre ds : Bs, l = pre ++ [46, 118] ++ ds ∧ ds ≠ [] ∧ (∀ c ∈ ds, isD c = true) ∧ (1 < ds.length → ds[0]? ≠ some 48) ∧ v = [46, 118] ++ ds
def PlainFine (l v : Bs) : Prop := (v = [] ∧ ∀ pre ds, ¬ VerEnd l pre ds) ∨
  ∃ pre ds : Bs, l = pre ++ [47, 118] ++ ds ∧ ds ≠ [] ∧ (∀ c ∈ ds, isD c = true) ∧ ds[0]? ≠ some 48 ∧ ds ≠ [49] ∧ v = [47, 118] ++ ds
def SplitR (l v : Bs) (st : Int) : Prop := (st = 0 ∨ st = 1 ∨ st = 2) ∧ (st = 1 → if gop.isPrefixOf l then GoFine l v else PlainFine l v)

theorem SplitR.open_ (l v : Bs) : SplitR l v 0 := ⟨.inl rfl, by simp⟩
theorem SplitR.wrong (l v : Bs) : SplitR l v 2 := ⟨.inr (.inr rfl), by simp⟩
theorem SplitR.goes {l v : Bs} (hp : gop.isPrefixOf l = true) (h : GoFine l v) : SplitR l v 1 := ⟨.inr (.inl rfl), fun _ => by rw [if_pos hp]; exact h⟩
theorem SplitR.plain {l v : Bs} (hp : gop.isPrefixOf l = false) (h : PlainFine l v) : SplitR l v 1 := ⟨.inr (.inl rfl), fun _ => by rw [hp]; exact h⟩

theorem cutL_app (pre y : Bs) (b : UInt8) (h : b ∉ y) : cutL (pre ++ b :: y) b = cutL pre b ++ [y] := by
  have key : ∀ z : Bs, b ∉ z.reverse → cutL (pre ++ [b] ++ z.reverse) b = cutL pre b ++ [z.reverse] := by
    intro z
    induction z with
    | nil => intro _; simp; exact cutL_hit pre b
    | cons c r ih =>
      intro hz
      simp only [List.reverse_cons, List.mem_append, List.mem_singleton, not_or] at hz
      have := ih hz.1
      rw [List.reverse_cons, ← List.append_assoc, cutL_miss _ b c (fun e => hz.2 e.symm) _ _ this]
  have := key y.reverse (by simpa using h)
  simpa using this

theorem isDD_not47 {ds : Bs} (h : ∀ c ∈ ds, isDD c = true) : (47 : UInt8) ∉ ds := fun hm => by
  have := h 47 hm
  revert this; decide
theorem okDD {c : UInt8} : okB false false [46] c = isDD c := by
  unfold okB isDD inB
  have e : ([46] : Bs).contains c = decide ((c.toNat : Int) = 46) := by
    rw [Bool.eq_iff_iff]; simp
    constructor
    · rintro rfl; rfl
    · intro h; exact UInt8.toNat_inj.1 (by show c.toNat = (46 : UInt8).toNat; simp; omega)
  rw [e]; simp
theorem okD {c : UInt8} : okB false false [] c = isD c := by
  unfold okB isD inB; simp

/-- there is no version at the end -/
theorem plain_none {l x : Bs} {outs : List Bs} (h : cutL l 47 = outs ++ [x]) (hn : outs = [] ∨ x.length < 2 ∨ x[0]? ≠ some 118 ∨ allB (x.drop 1) false false [46] = false) : PlainFine l [] := by
  refine .inl ⟨rfl, fun pre ds ⟨h1, h2, h3⟩ => ?_⟩
  have e := cutL_app pre (118 :: ds) 47 (by simp; exact isDD_not47 h3)
  have e2 : l = pre ++ 47 :: 118 :: ds := by rw [h1]; simp
  rw [e2, e] at h
  have h4 := List.append_inj' h rfl
  obtain ⟨h5, h6⟩ := h4
  simp at h6
  subst h6
  rcases hn with hn | hn | hn | hn
  · rw [hn] at h5; exact cutL_ne pre 47 h5
  · have := List.length_pos_iff.2 h2; simp at hn; omega
  · simp at hn
  · simp [allB] at hn
    obtain ⟨c, hc, hb⟩ := hn
    rw [okDD, h3 c hc] at hb
    cases hb

theorem plain_some {l x : Bs} {outs : List Bs} (h : cutL l 47 = outs ++ [x]) (h1 : outs ≠ []) (h2 : 2 ≤ x.length) (h3 : x[0]? = some 118) (h4 : allB (x.drop 1) false false [46] = true) (h5 : x[1]? ≠ some 48) (h6 : x ≠ [118, 49]) (h7 : inB x 46 = false) : PlainFine l (47 :: x) := by
  obtain ⟨⟨pre, e1, e2, _⟩, _⟩ := cutL_last l 47 outs x h
  obtain ⟨q, rfl⟩ := e2 h1
  match x, h2, h3 with
  | c :: ds, h2, h3 =>
    simp at h3; subst h3
    refine .inr ⟨q, ds, by rw [e1]; simp, by rintro rfl; simp at h2, fun c hc => ?_, by simpa using h5, by rintro rfl; exact h6 rfl, rfl⟩
    have h8 : okB false false [46] c = true := by simp [allB] at h4; exact h4 c hc
    have h9 : c ≠ 46 := by
      rintro rfl
      have : inB (118 :: ds) 46 = true := inB_true (by simp [hc])
      rw [h7] at this; cases this
    rw [okDD] at h8
    unfold isDD at h8
    unfold isD
    have h10 : ¬ (c.toNat : Int) = 46 := fun e => h9 (UInt8.toNat_inj.1 (by show c.toNat = (46 : UInt8).toNat; simp; omega))
    simpa [h10] using h8

theorem go_some {l x y p0 : Bs} {outs : List Bs} (h : cutL l 47 = outs ++ [x]) (hP : cutL x 46 = [p0] ++ [y]) (h2 : 2 ≤ y.length) (h3 : y[0]? = some 118) (h4 : digB (y.drop 1) = true) (h5 : y.length ≤ 2 ∨ y[1]? ≠ some 48) : GoFine l (46 :: y) := by
  obtain ⟨⟨pre, e1, _, _⟩, _⟩ := cutL_last l 47 outs x h
  obtain ⟨⟨pre2, e3, e4, _⟩, _⟩ := cutL_last x 46 [p0] y hP
  obtain ⟨q, rfl⟩ := e4 (by simp)
  match y, h2, h3 with
  | c :: ds, h2, h3 =>
    simp at h3; subst h3
    refine ⟨pre ++ q, ds, by rw [e1, e3]; simp, by rintro rfl; simp at h2, fun c hc => ?_, fun hl => ?_, rfl⟩
    · simp [digB, allB] at h4; rw [← okD]; exact h4.2 c hc
    · rcases h5 with h5 | h5
      · simp at h5; omega
      · simpa using h5

/-- spec.gopkg and spec.Split as plain functions -/
def gv (n1 n2 : Nat) (y z : Bs) : Bs × Int :=
  if n2 < 2 then ([], 2)
  else if 2 < n2 ∨ y.length < 2 ∨ y[0]? ≠ some 118 ∨ digB (y.drop 1) = false ∨ (2 < y.length ∧ y[1]? = some 48) ∨ 3 < n1 ∨ letterB z = false then ([], 0)
  else (46 :: y, 1)
def gopkgV (l : Bs) : Bs × Int :=
  let x := (cutL l 47).getLastD []
  gv (cutL l 47).length (cutL x 46).length ((cutL x 46).getLastD []) ((cutL x 46).headD [])
def sv (n : Nat) (x : Bs) : Bs × Int :=
  if n < 2 ∨ x.length < 2 ∨ x[0]? ≠ some 118 ∨ allB (x.drop 1) false false [46] = false then ([], 1)
  else if x[1]? = some 48 ∨ x[1]? = some 46 ∨ x = [118, 49] ∨ inB x 46 = true then ([], 2)
  else (47 :: x, 1)
def splitV (l : Bs) : Bs × Int :=
  if gop.isPrefixOf l = true then gopkgV l else sv (cutL l 47).length ((cutL l 47).getLastD [])

def SplitE (r : Bs × Int) (e : Ending) : Prop := e = .returned (.tuple #[.string (tx r.1), .int .i64 r.2])
theorem gopkgV_eq {l x y : Bs} {outs outs2 : List Bs} (h : cutL l 47 = outs ++ [x]) (h2 : cutL x 46 = outs2 ++ [y]) : gopkgV l = gv (outs.length + 1) (outs2.length + 1) y ((outs2 ++ [y]).headD []) := by
  unfold gopkgV
  rw [h]; simp [h2]
theorem splitV_go {l : Bs} (hp : gop.isPrefixOf l = true) : splitV l = gopkgV l := by unfold splitV; rw [if_pos hp]
theorem splitV_eq {l x : Bs} {outs : List Bs} (hp : gop.isPrefixOf l = false) (h : cutL l 47 = outs ++ [x]) : splitV l = sv (outs.length + 1) x := by
  unfold splitV; rw [hp, h]; simp
theorem SplitE.of {r : Bs × Int} {a : Bs} {n : Int} (h : r = (a, n)) : SplitE r (.returned (.tuple #[.string (tx a), .int .i64 n])) := by rw [h]; rfl
theorem tx_nil : (⟨#[]⟩ : ByteArray) = tx [] := rfl

theorem gv_two {n1 n2 : Nat} {y z : Bs} (h : n2 < 2) : gv n1 n2 y z = ([], 2) := by unfold gv; rw [if_pos h]
theorem gv_zero {n1 n2 : Nat} {y z : Bs} (h : ¬ n2 < 2) (h2 : 2 < n2 ∨ y.length < 2 ∨ y[0]? ≠ some 118 ∨ digB (y.drop 1) = false ∨ (2 < y.length ∧ y[1]? = some 48) ∨ 3 < n1 ∨ letterB z = false) : gv n1 n2 y z = ([], 0) := by unfold gv; rw [if_neg h, if_pos h2]
theorem gv_one {n1 n2 : Nat} {y z : Bs} (h : ¬ n2 < 2) (h2 : ¬ 2 < n2) (h3 : ¬ y.length < 2) (h4 : y[0]? = some 118) (h5 : digB (y.drop 1) = true) (h6 : y.length ≤ 2 ∨ y[1]? ≠ some 48) (h7 : ¬ 3 < n1) (h8 : letterB z = true) : gv n1 n2 y z = (46 :: y, 1) := by
  unfold gv
  rw [if_neg h, if_neg]
  rintro (h' | h' | h' | h' | ⟨ha, hb⟩ | h' | h')
  · exact h2 h'
  · exact h3 h'
  · exact h' h4
  · rw [h5] at h'; cases h'
  · rcases h6 with h6 | h6
    · omega
    · exact h6 hb
  · exact h7 h'
  · rw [h8] at h'; cases h'
theorem sv_nil {n : Nat} {x : Bs} (h : n < 2 ∨ x.length < 2 ∨ x[0]? ≠ some 118 ∨ allB (x.drop 1) false false [46] = false) : sv n x = ([], 1) := by unfold sv; rw [if_pos h]
theorem sv_rest {n : Nat} {x : Bs} (h1 : ¬ n < 2) (h2 : ¬ x.length < 2) (h3 : x[0]? = some 118) (h4 : allB (x.drop 1) false false [46] = true) :
    sv n x = if x[1]? = some 48 ∨ x[1]? = some 46 ∨ x = [118, 49] ∨ inB x 46 = true then ([], 2) else (47 :: x, 1) := by
  unfold sv
  rw [if_neg]
  rintro (h' | h' | h' | h')
  · exact h1 h'
  · exact h2 h'
  · exact h' h3
  · rw [h4] at h'; cases h'
theorem cons_tx (c : UInt8) (p : ByteArray) : (⟨#[c]⟩ : ByteArray) ++ p = tx (c :: p.data.toList) := by
  apply tx_eq; simp [ByteArray.data_append]
theorem byte_is {p : ByteArray} {k : Nat} {h : k < p.size} {c : UInt8} (e : (p[k].toNat : Int) = (c.toNat : Int)) : p.data.toList[k]? = some c := by
  rw [byte_at' p k h]; congr 1; exact UInt8.toNat_inj.1 (by omega)
theorem byte_isnt {p : ByteArray} {k : Nat} {h : k < p.size} {c : UInt8} (e : (p[k].toNat : Int) ≠ (c.toNat : Int)) : p.data.toList[k]? ≠ some c := by
  rw [byte_at' p k h]; intro e2; injection e2 with e2; exact e (by rw [e2])

/-- what they tell when they are fine -/
theorem splitV_R (l : Bs) : SplitR l (splitV l).1 (splitV l).2 := by
  obtain ⟨outs, h⟩ := cutL_get_last l 47
  generalize (cutL l 47)[(cutL l 47).length - 1]'(by have := List.length_pos_iff.2 (cutL_ne l 47); omega) = x at h
  rcases hp : gop.isPrefixOf l with _ | _
  · rw [splitV_eq hp h]
    unfold sv
    split
    · rename_i hc
      exact SplitR.plain hp (plain_none h (by
        rcases hc with hc | hc | hc | hc
        · exact .inl (List.eq_nil_of_length_eq_zero (by omega))
        · exact .inr (.inl hc)
        · exact .inr (.inr (.inl hc))
        · exact .inr (.inr (.inr hc))))
    · rename_i hc
      simp only [not_or, Nat.not_lt, Decidable.not_not, Bool.not_eq_false] at hc
      split
      · exact SplitR.wrong _ _
      · rename_i hd
        simp only [not_or, Bool.not_eq_true] at hd
        exact SplitR.plain hp (plain_some h (by rintro rfl; simp at hc) (by omega) hc.2.2.1 hc.2.2.2 hd.1 hd.2.2.1 hd.2.2.2)
  · obtain ⟨outs2, h2⟩ := cutL_get_last x 46
    generalize (cutL x 46)[(cutL x 46).length - 1]'(by have := List.length_pos_iff.2 (cutL_ne x 46); omega) = y at h2
    rw [splitV_go hp, gopkgV_eq h h2]
    unfold gv
    split
    · exact SplitR.wrong _ _
    · rename_i hn
      split
      · exact SplitR.open_ _ _
      · rename_i hc
        simp only [not_or, Nat.not_lt, Decidable.not_not, Bool.not_eq_false, not_and] at hc
        obtain ⟨p0, hp0⟩ : ∃ p0, outs2 = [p0] := List.length_eq_one_iff.1 (by omega)
        refine SplitR.goes hp (go_some h (by rw [← hp0]; exact h2) (by omega) hc.2.2.1 hc.2.2.2.1 ?_)
        by_cases h3 : 2 < y.length
        · exact .inr (hc.2.2.2.2.1 h3)
        · exact .inl (by omega)

/-- a row that is known, with what is known of its last piece -/
theorem cut_open (l : Bs) (b : UInt8) : ∃ outs x, cutL l b = outs ++ [x] ∧ x.length ≤ l.length ∧ outs.length ≤ l.length := by
  obtain ⟨outs, h⟩ := cutL_get_last l b
  refine ⟨outs, _, h, cutL_size l b _ (List.getElem_mem _), ?_⟩
  have := cutL_len l b
  rw [h] at this
  simp at this
  exact this

theorem TxRow.last {w : World} {g : Nat} {outs : List Bs} {x : Bs} (h : TxRow w g (outs ++ [x])) : w.cell? ⟨g, outs.length, none⟩ = some (.string (tx x)) :=
  h.2 outs.length x (by simp)

end Go.Proofs.Ytdinaphcglmhoaa
