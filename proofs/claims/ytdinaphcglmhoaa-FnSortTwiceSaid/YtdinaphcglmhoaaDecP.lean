/-
  What a semantic version is made of: plain part.
-/
import Derived.Test.YtdinaphcglmhoaaParseP
namespace Go.Proofs.Ytdinaphcglmhoaa
open Go.RowKit

def PreOk (x : Bs) : Prop := x = [] ∨ ∃ y, x = 45 :: y ∧ partsB y true = true
def BldOk (x : Bs) : Prop := x = [] ∨ ∃ y, x = 43 :: y ∧ partsB y false = true
def Dec1 (l : Bs) (p : Sv) : Prop := p.short = [46, 48, 46, 48] ∧ p.minor = [48] ∧ p.patch = [48] ∧ p.pre = [] ∧ p.build = [] ∧ numB p.major = true ∧ l = 118 :: p.major
def Dec2 (l : Bs) (p : Sv) : Prop := p.short = [46, 48] ∧ p.patch = [48] ∧ p.pre = [] ∧ p.build = [] ∧ numB p.major = true ∧ numB p.minor = true ∧ l = 118 :: (p.major ++ 46 :: p.minor)
def Dec3 (l : Bs) (p : Sv) : Prop := p.short = [] ∧ numB p.major = true ∧ numB p.minor = true ∧ numB p.patch = true ∧ PreOk p.pre ∧ BldOk p.build ∧ l = 118 :: (p.major ++ 46 :: (p.minor ++ 46 :: (p.patch ++ (p.pre ++ p.build))))
def Dec (l : Bs) (p : Sv) : Prop := Dec1 l p ∨ Dec2 l p ∨ Dec3 l p

theorem spanI_dec {l t r : Bs} (h : spanI l = some (t, r)) : numB t = true ∧ l = t ++ r := by
  unfold spanI at h
  split at h
  · rename_i hn
    injection h with h; injection h with h1 h2
    exact ⟨by rw [← h1]; exact hn, by rw [← h1, ← h2, List.takeWhile_append_dropWhile]⟩
  · cases h
theorem spanPre_dec {l t r : Bs} (h0 : l[0]? = some 45) (h : spanPre l = some (t, r)) : PreOk t ∧ l = t ++ r := by
  rw [spanPre_eq] at h
  split at h
  · rename_i hn
    injection h with h; injection h with h1 h2
    refine ⟨by rw [← h1]; exact .inr ⟨_, rfl, hn⟩, ?_⟩
    cases l with
    | nil => simp at h0
    | cons c l =>
      simp at h0; subst h0
      rw [← h1, ← h2]
      simp [List.takeWhile_append_dropWhile]
  · cases h
theorem spanBuild_dec {l t r : Bs} (h0 : l[0]? = some 43) (h : spanBuild l = some (t, r)) : BldOk t ∧ t = l ∧ r = [] := by
  unfold spanBuild at h
  split at h
  · rename_i hn
    injection h with h; injection h with h1 h2
    subst h1
    refine ⟨?_, rfl, h2.symm⟩
    cases l with
    | nil => simp at h0
    | cons c l => simp at h0; subst h0; exact .inr ⟨l, rfl, hn⟩
  · cases h

theorem head_drop {l : Bs} {c : UInt8} (h : l[0]? = some c) : l = c :: l.drop 1 := by
  cases l with
  | nil => simp at h
  | cons d r => simp at h; subst h; rfl

theorem parseV_dec {l : Bs} {p : Sv} (h : parseV l = some p) : Dec l p := by
  unfold parseV at h
  split at h
  · rename_i h0
    have hl := head_drop h0
    generalize l.drop 1 = a at *
    subst hl
    unfold parse1 at h
    cases hI : spanI a with
    | none => rw [hI] at h; cases h
    | some q =>
      obtain ⟨M, b⟩ := q
      obtain ⟨hM, rfl⟩ := spanI_dec hI
      rw [hI] at h
      simp only at h
      split at h
      · rename_i hb
        injection h with h; subst h
        exact .inl ⟨rfl, rfl, rfl, rfl, rfl, hM, by have hb' : b = [] := hb; simp [hb']⟩
      · split at h
        · rename_i _ hb
          have hl := head_drop hb
          generalize b.drop 1 = c at *
          subst hl
          unfold parse2 at h
          cases hI2 : spanI c with
          | none => rw [hI2] at h; cases h
          | some q2 =>
            obtain ⟨m, d⟩ := q2
            obtain ⟨hm, rfl⟩ := spanI_dec hI2
            rw [hI2] at h
            simp only at h
            split at h
            · rename_i hb2
              injection h with h; subst h
              exact .inr (.inl ⟨rfl, rfl, rfl, rfl, hM, hm, by have hb' : d = [] := hb2; simp [hb']⟩)
            · split at h
              · rename_i _ hb2
                have hl := head_drop hb2
                generalize d.drop 1 = e at *
                subst hl
                unfold parse3 at h
                cases hI3 : spanI e with
                | none => rw [hI3] at h; cases h
                | some q3 =>
                  obtain ⟨pt, f⟩ := q3
                  obtain ⟨hp, rfl⟩ := spanI_dec hI3
                  rw [hI3] at h
                  simp only at h
                  unfold tailV at h
                  cases hP : preV f with
                  | none => rw [hP] at h; cases h
                  | some q4 =>
                    obtain ⟨pr, g⟩ := q4
                    have hpr : PreOk pr ∧ f = pr ++ g := by
                      unfold preV at hP
                      split at hP
                      · rename_i h45; exact spanPre_dec h45 hP
                      · injection hP with hP; injection hP with h1 h2; subst h1; subst h2; exact ⟨.inl rfl, rfl⟩
                    obtain ⟨hpr, rfl⟩ := hpr
                    rw [hP] at h
                    simp only at h
                    cases hB : bldV g with
                    | none => rw [hB] at h; cases h
                    | some q5 =>
                      obtain ⟨bd, rest⟩ := q5
                      rw [hB] at h
                      simp only at h
                      split at h
                      · rename_i hr
                        injection h with h; subst h
                        have hbd : BldOk bd ∧ g = bd := by
                          unfold bldV at hB
                          split at hB
                          · rename_i h43
                            obtain ⟨h1, h2, _⟩ := spanBuild_dec h43 hB
                            exact ⟨h1, h2.symm⟩
                          · injection hB with hB; injection hB with h1 h2
                            subst h1; rw [h2, hr]; exact ⟨.inl rfl, rfl⟩
                        obtain ⟨hbd, rfl⟩ := hbd
                        exact .inr (.inr ⟨rfl, hM, hm, hp, hpr, hbd, rfl⟩)
                      · cases h
              · cases h
        · cases h
  · cases h

theorem numB_D {l : Bs} (h : numB l = true) : l ≠ [] ∧ ∀ c ∈ l, isD c = true := by
  unfold numB at h
  rw [Bool.and_eq_true] at h
  exact digB_iff.1 h.1
theorem spanI_of {t r : Bs} (h : numB t = true) (hr : ∀ c, r[0]? = some c → isD c = false) : spanI (t ++ r) = some (t, r) := by
  have h1 := (numB_D h).2
  have := takeWhile_at (p := isD) (l := t ++ r) (k := t.length) (by simpa using h1) (by
    cases r with
    | nil => left; simp
    | cons c r => right; exact ⟨c, by simp, hr c rfl⟩)
  unfold spanI
  rw [this.1, this.2]
  simp [h]

/-- the other way -/
theorem dec_parse1 {l : Bs} {p : Sv} (h : Dec1 l p) : parseV l = some p := by
  obtain ⟨h1, h2, h3, h4, h5, hM, rfl⟩ := h
  have e := spanI_of (t := p.major) (r := []) hM (by simp)
  rw [List.append_nil] at e
  unfold parseV parse1
  simp [e]
  cases p; simp_all
theorem dec_parse2 {l : Bs} {p : Sv} (h : Dec2 l p) : parseV l = some p := by
  obtain ⟨h1, h3, h4, h5, hM, hm, rfl⟩ := h
  have e := spanI_of (t := p.major) (r := 46 :: p.minor) hM (by simp; decide)
  have e2 := spanI_of (t := p.minor) (r := []) hm (by simp)
  rw [List.append_nil] at e2
  unfold parseV parse1 parse2
  simp [e, e2]
  cases p; simp_all
theorem partsB_np {y : Bs} {st : Bool} (h : partsB y st = true) : ∀ c ∈ y, np c = true := by
  intro c hc
  rw [np_iff]
  rintro rfl
  have := parts_bad_char (x := y) (st := st) hc (by decide) (by decide)
  rw [h] at this; cases this
theorem preV_of {x r : Bs} (h : PreOk x) (hr : r = [] ∨ r[0]? = some 43) : preV (x ++ r) = some (x, r) := by
  unfold preV
  rcases h with rfl | ⟨y, rfl, hy⟩
  · rw [if_neg]; rfl
    rw [List.nil_append]
    rcases hr with rfl | hr
    · simp
    · rw [hr]; decide
  · rw [if_pos (by simp), spanPre_eq]
    have e : (45 :: y ++ r).drop 1 = y ++ r := rfl
    rw [e]
    have := takeWhile_at (p := np) (l := y ++ r) (k := y.length) (by simpa using partsB_np hy) (by
      rcases hr with rfl | hr
      · left; simp
      · right; exact ⟨43, by rw [List.getElem?_append_right (Nat.le_refl _)]; simpa using hr, by decide⟩)
    rw [this.1, this.2]
    simp [hy]
theorem bldV_of {x : Bs} (h : BldOk x) : bldV x = some (x, []) := by
  unfold bldV
  rcases h with rfl | ⟨y, rfl, hy⟩
  · rfl
  · rw [if_pos (by simp)]; unfold spanBuild; simp [hy]
theorem bld_head {x : Bs} (h : BldOk x) : x = [] ∨ x[0]? = some 43 := by
  rcases h with rfl | ⟨y, rfl, _⟩
  · exact .inl rfl
  · exact .inr rfl
theorem tail_head {x y : Bs} (h : PreOk x) (hy : BldOk y) : ∀ c, (x ++ y)[0]? = some c → isD c = false := by
  intro c hc
  rcases h with rfl | ⟨z, rfl, _⟩
  · rcases hy with rfl | ⟨z, rfl, _⟩
    · simp at hc
    · simp at hc; subst hc; decide
  · simp at hc; subst hc; decide
theorem dec_parse3 {l : Bs} {p : Sv} (h : Dec3 l p) : parseV l = some p := by
  obtain ⟨h1, hM, hm, hp, hpr, hbd, rfl⟩ := h
  have e := spanI_of (t := p.major) (r := 46 :: (p.minor ++ 46 :: (p.patch ++ (p.pre ++ p.build)))) hM (by simp; decide)
  have e2 := spanI_of (t := p.minor) (r := 46 :: (p.patch ++ (p.pre ++ p.build))) hm (by simp; decide)
  have e3 := spanI_of (t := p.patch) (r := p.pre ++ p.build) hp (tail_head hpr hbd)
  have e4 := preV_of (r := p.build) hpr (bld_head hbd)
  have e5 := bldV_of hbd
  unfold parseV parse1 parse2 parse3 tailV
  simp [e, e2, e3, e4, e5]
  cases p; simp_all
theorem dec_parse {l : Bs} {p : Sv} (h : Dec l p) : parseV l = some p := by
  rcases h with h | h | h
  · exact dec_parse1 h
  · exact dec_parse2 h
  · exact dec_parse3 h

end Go.Proofs.Ytdinaphcglmhoaa
