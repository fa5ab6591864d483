/-
  The walks of semver.Canonical, module.CanonicalVersion, impl.CanonicalVersion.
-/
import Derived.Test.YtdinaphcglmhoaaCanonP
import Derived.Test.YtdinaphcglmhoaaMaj
namespace Go.Proofs.Ytdinaphcglmhoaa
open Go.RowKit
set_option linter.unusedVariables false
set_option linter.unusedSimpArgs false

theorem tx_empty {x : Bs} (h : (tx x).toList.isEmpty = true) : x = [] := by
  have := empty_str h; rwa [tx_data] at this
theorem tx_app (x y : Bs) : tx (x ++ y) = tx x ++ tx y := by apply ByteArray.ext; apply Array.ext'; simp [tx]
theorem tx_nonempty {x : Bs} (h : (tx x).toList.isEmpty = false) : x ≠ [] := by
  rintro rfl
  rw [Lib.toList_data] at h; cases h

set_option maxHeartbeats 1000000 in
theorem canon_any (s : ByteArray) (w : World) (hs : s.size ≤ 4294967296) :
    Calls Try.prog 46 #[.string s] w fun e w' => e = .returned (.string (tx (canonV s.data.toList))) ∧ Below w.heap.size w w' := by
  go_enter Try.func46, Try.ntmps46
  go_wp2_with fail
  refine (parse_any _ _ hs).mono ?_
  rintro e w1 ⟨hE, hb⟩
  unfold ParE at hE
  cases hP : parseV s.data.toList with
  | none =>
    have E : Hid (canonV s.data.toList = []) := Lib.hid (by unfold canonV; rw [hP])
    rw [hP] at hE
    obtain ⟨a, b, c, d, f, g, rfl⟩ := hE
    have HB := Lib.hid (below_tr hb (below_al (Below.refl _ _) (.cells #[.string a, .string b, .string c, .string d, .string f, .string g] 68)))
    clear hb hP
    unfold failVal
    go_wp2
    go_ret
    exact ⟨by rw [E.out]; rfl, HB.out⟩
  | some p =>
    obtain ⟨h1, h2, h3⟩ := dec_canon hP
    have hlen := dec_build hP
    have hsl := (dec_parts hP).2
    rw [hP] at hE
    have hE' : e = .returned (svVal p) := hE
    clear hE
    subst hE'
    unfold svVal
    have HB := Lib.hid (below_tr hb (below_al (Below.refl _ _) (.cells #[.string (tx p.major), .string (tx p.minor), .string (tx p.patch), .string (tx p.short), .string (tx p.pre), .string (tx p.build)] 68)))
    clear hb hP
    have hbs : (tx p.build).size ≤ s.size := by rw [tx_size, ← size_len]; exact hlen
    have hss : (tx p.short).size ≤ 4 := by rw [tx_size]; exact hsl
    have e1 : (tx p.build).toList.isEmpty = false → s.extract 0 (s.size - (tx p.build).size) = tx (canonV s.data.toList) := by
      intro h
      rw [← h1 (tx_nonempty h), tx_size, ← tx_of (s.extract 0 _), extract_take, size_len]
    have e2 : (tx p.build).toList.isEmpty = true → (tx p.short).toList.isEmpty = false → s ++ tx p.short = tx (canonV s.data.toList) := by
      intro h h'
      rw [← h2 (tx_empty h) (tx_nonempty h'), tx_app, tx_of]
    have e3 : (tx p.build).toList.isEmpty = true → (tx p.short).toList.isEmpty = true → s = tx (canonV s.data.toList) := by
      intro h h'
      rw [← h3 (tx_empty h) (tx_empty h'), tx_of]
    clear h1 h2 h3 hlen hsl
    generalize tx p.build = bb at *
    generalize tx p.short = ss at *
    cases hbe : bb.toList.isEmpty
    · have E := Lib.hid (e1 hbe)
      clear e1 e2 e3
      go_wp2
      go_ret
      exact ⟨ret_str E.out, HB.out⟩
    · cases hse : ss.toList.isEmpty
      · have E := Lib.hid (e2 hbe hse)
        clear e1 e2 e3
        go_wp2
        go_ret
        exact ⟨ret_str E.out, HB.out⟩
      · have E := Lib.hid (e3 hbe hse)
        clear e1 e2 e3
        go_wp2
        go_ret
        exact ⟨ret_str E.out, HB.out⟩

def incL : Bs := [43, 105, 110, 99, 111, 109, 112, 97, 116, 105, 98, 108, 101]
def modCan (l : Bs) : Bs := if bldOf l = incL then canonV l ++ incL else canonV l
theorem canonV_len (l : Bs) : (canonV l).length ≤ l.length + 4 := by
  cases h : parseV l with
  | none => unfold canonV; rw [h]; simp
  | some p =>
    obtain ⟨h1, h2, h3⟩ := dec_canon h
    have := (dec_parts h).2
    by_cases hb : p.build = []
    · by_cases hs : p.short = []
      · rw [← h3 hb hs]; omega
      · rw [← h2 hb hs, List.length_append]; omega
    · rw [← h1 hb, List.length_take]; omega
theorem inc_test (x : Bs) : ((tx x).toList == [43, 105, 110, 99, 111, 109, 112, 97, 116, 105, 98, 108, 101]) = decide (x = incL) := by
  rw [Lib.toList_data, tx_data]
  show (x == incL) = decide (x = incL)
  by_cases h : x = incL
  · rw [h]; decide
  · rw [decide_eq_false h]; simpa using h
set_option maxHeartbeats 1000000 in
theorem modcan_any (s : ByteArray) (w : World) (hs : s.size ≤ 4294967296) :
    Calls Try.prog 33 #[.string s] w fun e w' => e = .returned (.string (tx (modCan s.data.toList))) ∧ Below w.heap.size w w' := by
  go_enter Try.func33, Try.ntmps33
  go_wp2_with fail
  refine (canon_any _ _ hs).mono ?_
  rintro e w1 ⟨rfl, hb⟩
  go_wp2_with fail
  refine (build_any _ _ hs).mono ?_
  rintro e w2 ⟨rfl, hb2⟩
  have HB := Lib.hid (below_tr hb hb2)
  clear hb hb2
  have ht := inc_test (bldOf s.data.toList)
  have hm : modCan s.data.toList = if bldOf s.data.toList = incL then canonV s.data.toList ++ incL else canonV s.data.toList := rfl
  obtain ⟨cc, hcc⟩ : ∃ c, c = tx (canonV s.data.toList) := ⟨_, rfl⟩
  have hcl : cc.size ≤ s.size + 4 := by rw [hcc, tx_size, ← size_len]; exact canonV_len _
  rw [← hcc]
  generalize tx (bldOf s.data.toList) = bb at *
  by_cases hi : bldOf s.data.toList = incL
  · have E : Hid (tx (modCan s.data.toList) = cc ++ tx incL) := Lib.hid (by rw [hm, if_pos hi, tx_app, hcc])
    rw [decide_eq_true hi] at ht
    clear hi hm hcc
    go_wp2
    go_ret
    exact ⟨ret_str (by rw [E.out]; rfl), HB.out⟩
  · have E : Hid (tx (modCan s.data.toList) = cc) := Lib.hid (by rw [hm, if_neg hi, hcc])
    rw [decide_eq_false hi] at ht
    clear hi hm hcc
    go_wp2
    go_ret
    exact ⟨ret_str (by rw [E.out]), HB.out⟩

set_option maxHeartbeats 1000000 in
theorem implcan_any (s : ByteArray) (w : World) (hs : s.size ≤ 4294967296) :
    Calls Try.prog 18 #[.string s] w fun e w' => e = .returned (.string (tx (modCan s.data.toList))) ∧ Below w.heap.size w w' := by
  go_enter Try.func18, Try.ntmps18
  go_wp2_with fail
  refine (modcan_any _ _ hs).mono ?_
  rintro e w1 ⟨rfl, hb⟩
  have HB := Lib.hid hb
  clear hb
  go_wp2
  go_ret
  exact ⟨rfl, HB.out⟩
end Go.Proofs.Ytdinaphcglmhoaa
