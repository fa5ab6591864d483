/-
  The walk of spec.Canonical.
-/
import Derived.Test.YtdinaphcglmhoaaCanon
import Derived.Test.YtdinaphcglmhoaaRead
namespace Go.Proofs.Ytdinaphcglmhoaa
open Go.RowKit
set_option linter.unusedVariables false
set_option linter.unusedSimpArgs false

def bareR (r : Rv) : Bs := 118 :: (r.n0 ++ 46 :: (r.n1 ++ 46 :: (r.n2 ++ r.pre)))
def specCan (l : Bs) : Bs := match readV l with
  | none => []
  | some r => if r.plus = incL then bareR r ++ incL else bareR r
theorem specCan_eq (l : Bs) : specCan l = modCan l := by
  have h := read_parse l
  unfold specCan modCan bldOf canonV
  rw [h]
  cases readV l with
  | none => rfl
  | some r => rfl
theorem read_len {l : Bs} {r : Rv} (h : readV l = some r) : r.n0.length ≤ l.length ∧ r.n1.length ≤ l.length + 1 ∧ r.n2.length ≤ l.length + 1 ∧ r.pre.length ≤ l.length ∧ r.plus.length ≤ l.length := by
  rcases read_dec h with ⟨h1, h2, h3, h4, h5, hM, e⟩ | ⟨h1, h3, h4, h5, hM, hm, e⟩ | ⟨h1, hM, hm, hz, hp, hb, e⟩
  · have h2 : r.n1 = [48] := h2
    have h3 : r.n2 = [48] := h3
    have h4 : r.pre = [] := h4
    have h5 : r.plus = [] := h5
    have e : l = 118 :: r.n0 := e
    rw [e, h2, h3, h4, h5]; simp
  · have h3 : r.n2 = [48] := h3
    have h4 : r.pre = [] := h4
    have h5 : r.plus = [] := h5
    have e : l = 118 :: (r.n0 ++ 46 :: r.n1) := e
    rw [e, h3, h4, h5]; simp; omega
  · have e : l = 118 :: (r.n0 ++ 46 :: (r.n1 ++ 46 :: (r.n2 ++ (r.pre ++ r.plus)))) := e
    rw [e]; simp; omega

set_option maxHeartbeats 1000000 in
theorem speccan_any (s : ByteArray) (w : World) (hs : s.size ≤ 4294967296) :
    Calls Try.prog 19 #[.string s] w fun e w' => e = .returned (.string (tx (specCan s.data.toList))) ∧ Below w.heap.size w w' := by
  go_enter Try.func19, Try.ntmps19
  go_wp2_with fail
  refine (read_any _ _ hs).mono ?_
  rintro e w1 ⟨hE, hb⟩
  unfold RvE at hE
  cases hP : readV s.data.toList with
  | none =>
    have E : Hid (specCan s.data.toList = []) := Lib.hid (by unfold specCan; rw [hP])
    rw [hP] at hE
    obtain ⟨a, b, c, d, f, k, rfl⟩ := hE
    have HB := Lib.hid (below_tr hb (below_al (Below.refl _ _) (.cells #[.string a, .string b, .string c, .string d, .string f, .int .i64 k] 46)))
    clear hb hP
    unfold rvAgg
    go_wp2
    go_ret
    exact ⟨by rw [E.out]; rfl, HB.out⟩
  | some p =>
    obtain ⟨l0, l1, l2, l3, l4⟩ := read_len hP
    have hsz := size_len s
    rw [hP] at hE
    have hE' : e = .returned (.tuple #[rvAgg (tx p.n0) (tx p.n1) (tx p.n2) (tx p.pre) (tx p.plus) p.told, .bool true]) := hE
    clear hE
    subst hE'
    unfold rvAgg
    have HB := Lib.hid (below_tr hb (below_al (Below.refl _ _) (.cells #[.string (tx p.n0), .string (tx p.n1), .string (tx p.n2), .string (tx p.pre), .string (tx p.plus), .int .i64 p.told] 46)))
    have hm : specCan s.data.toList = if p.plus = incL then bareR p ++ incL else bareR p := by unfold specCan; rw [hP]
    have hbare : tx (bareR p) = ⟨#[118]⟩ ++ tx p.n0 ++ ⟨#[46]⟩ ++ tx p.n1 ++ ⟨#[46]⟩ ++ tx p.n2 ++ tx p.pre := by
      apply ByteArray.ext; apply Array.ext'; simp [bareR, tx]
    have ht := inc_test p.plus
    have s0 : (tx p.n0).size ≤ 4294967297 := by rw [tx_size]; omega
    have s1 : (tx p.n1).size ≤ 4294967297 := by rw [tx_size]; omega
    have s2 : (tx p.n2).size ≤ 4294967297 := by rw [tx_size]; omega
    have s3 : (tx p.pre).size ≤ 4294967297 := by rw [tx_size]; omega
    have s4 : (tx p.plus).size ≤ 4294967297 := by rw [tx_size]; omega
    have hpp : p.plus = incL → tx p.plus = tx incL := fun h => by rw [h]
    clear hb hP l0 l1 l2 l3 l4 hsz
    generalize tx p.n0 = x0 at *
    generalize tx p.n1 = x1 at *
    generalize tx p.n2 = x2 at *
    generalize tx p.pre = x3 at *
    generalize tx p.plus = x4 at *
    by_cases hi : p.plus = incL
    · have E : Hid (tx (specCan s.data.toList) = ⟨#[118]⟩ ++ x0 ++ ⟨#[46]⟩ ++ x1 ++ ⟨#[46]⟩ ++ x2 ++ x3 ++ x4) := Lib.hid (by rw [hm, if_pos hi, tx_app, hbare, hpp hi])
      rw [decide_eq_true hi] at ht
      clear hi hm hbare hpp
      go_wp2
      go_ret
      exact ⟨ret_str (by rw [E.out]), HB.out⟩
    · have E : Hid (tx (specCan s.data.toList) = ⟨#[118]⟩ ++ x0 ++ ⟨#[46]⟩ ++ x1 ++ ⟨#[46]⟩ ++ x2 ++ x3) := Lib.hid (by rw [hm, if_neg hi, hbare])
      rw [decide_eq_false hi] at ht
      clear hi hm hbare hpp
      go_wp2
      go_ret
      exact ⟨ret_str (by rw [E.out]), HB.out⟩
end Go.Proofs.Ytdinaphcglmhoaa
