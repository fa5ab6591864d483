/-
  The canonical form's own form: plain part.
-/
import Derived.Test.YtdinaphcglmhoaaCanon
namespace Go.Proofs.Ytdinaphcglmhoaa
open Go.RowKit

theorem dec_fine {l : Bs} {p : Sv} (h : Dec l p) : numB p.major = true ∧ numB p.minor = true ∧ numB p.patch = true ∧ PreOk p.pre ∧ BldOk p.build := by
  rcases h with ⟨h1, h2, h3, h4, h5, hM, _⟩ | ⟨h1, h3, h4, h5, hM, hm, _⟩ | ⟨h1, hM, hm, hz, hp, hb, _⟩
  · exact ⟨hM, by rw [h2]; decide, by rw [h3]; decide, .inl h4, .inl h5⟩
  · exact ⟨hM, hm, by rw [h3]; decide, .inl h4, .inl h5⟩
  · exact ⟨hM, hm, hz, hp, hb⟩
def canSv (p : Sv) : Sv := ⟨p.major, p.minor, p.patch, [], p.pre, if p.build = incL then incL else []⟩
theorem inc_bld : BldOk incL := .inr ⟨[105, 110, 99, 111, 109, 112, 97, 116, 105, 98, 108, 101], rfl, by decide⟩
theorem modCan_some {l : Bs} {p : Sv} (h : parseV l = some p) : modCan l = 118 :: (p.major ++ 46 :: (p.minor ++ 46 :: (p.patch ++ (p.pre ++ (canSv p).build)))) := by
  have hb : bldOf l = p.build := by unfold bldOf; rw [h]
  unfold modCan
  rw [canonV_some h, hb]
  unfold canSv
  split
  · simp
  · simp
theorem modCan_none {l : Bs} (h : parseV l = none) : modCan l = [] := by
  have hb : bldOf l = [] := by unfold bldOf; rw [h]
  have hc : canonV l = [] := by unfold canonV; rw [h]
  unfold modCan
  rw [hb, hc, if_neg (by decide)]
theorem modCan_parse {l : Bs} {p : Sv} (h : parseV l = some p) : parseV (modCan l) = some (canSv p) := by
  obtain ⟨h1, h2, h3, h4, h5⟩ := dec_fine (parseV_dec h)
  refine dec_parse (.inr (.inr ⟨rfl, h1, h2, h3, h4, ?_, modCan_some h⟩))
  unfold canSv
  split
  · exact inc_bld
  · exact .inl rfl
theorem modCan_idem (l : Bs) : modCan (modCan l) = modCan l := by
  cases h : parseV l with
  | none => rw [modCan_none h]; exact modCan_none rfl
  | some p =>
    rw [modCan_some (modCan_parse h), modCan_some h]
    unfold canSv
    simp only
    split
    · rw [if_pos rfl]
    · rw [if_neg (by decide)]
theorem modCan_len (l : Bs) : (modCan l).length ≤ l.length + 17 := by
  have := canonV_len l
  unfold modCan
  split
  · rw [List.length_append]; have : incL.length = 13 := rfl; omega
  · omega
theorem modCan_read (l : Bs) : match readV l with
    | none => readV (modCan l) = none
    | some r => ∃ r', readV (modCan l) = some r' ∧ r'.n0 = r.n0 ∧ r'.n1 = r.n1 ∧ r'.n2 = r.n2 ∧ r'.pre = r.pre := by
  have h := read_parse l
  have h2 := read_parse (modCan l)
  cases hr : readV l with
  | none =>
    rw [hr] at h
    rw [modCan_none h]; rfl
  | some r =>
    rw [hr] at h
    have h' : parseV l = some (toSv r) := h
    rw [modCan_parse h'] at h2
    cases hr2 : readV (modCan l) with
    | none => rw [hr2] at h2; cases h2
    | some r' =>
      rw [hr2] at h2
      have e : canSv (toSv r) = toSv r' := by injection h2
      have e1 := congrArg Sv.major e
      have e2 := congrArg Sv.minor e
      have e3 := congrArg Sv.patch e
      have e4 := congrArg Sv.pre e
      exact ⟨r', rfl, e1.symm, e2.symm, e3.symm, e4.symm⟩
end Go.Proofs.Ytdinaphcglmhoaa
