/-
  The walk of module.Sort's closure at any two elements. PRINTED by gen_clos.py.
-/
import Derived.Test.YtdinaphcglmhoaaSortI
import Derived.Test.YtdinaphcglmhoaaVerW
import Derived.Test.YtdinaphcglmhoaaSlay2
namespace Go.Proofs.Ytdinaphcglmhoaa
open Go.RowKit Go.Sort
set_option linter.unusedVariables false
set_option linter.unusedSimpArgs false

theorem cmpB_eq : ∀ (x y : Bs), Lib.compareBytes x y = txC x y
  | [], [] => rfl
  | [], _ :: _ => rfl
  | _ :: _, [] => rfl
  | a :: x, b :: y => by
    have ih := cmpB_eq x y
    unfold Lib.compareBytes txC
    rcases Nat.lt_trichotomy a.toNat b.toNat with h | h | h
    · have h1 := UInt8.lt_iff_toNat_lt.2 h
      simp [Op.bytesLess, h1]
    · have e := UInt8.toNat_inj.1 h
      subst e
      rw [ih]; unfold txC
      simp [Op.bytesLess, UInt8.lt_irrefl]
    · have h1 := UInt8.lt_iff_toNat_lt.2 h
      have h2 : ¬ a < b := fun e => by have := UInt8.lt_iff_toNat_lt.1 e; omega
      have h3 : a ≠ b := fun e => by subst e; omega
      simp [Op.bytesLess, h1, h2, h3]
theorem strCmp_any (x y : ByteArray) (w : World) : Calls Try.prog 53 #[.string x, .string y] w fun e w' => e = .returned (.int .i64 (txC x.data.toList y.data.toList)) ∧ w = w' :=
  (Any.strings_Compare Try.strCmp x y w).mono fun e w' ⟨he, hw⟩ => ⟨by rw [he, cmpB_eq], hw.symm⟩

/-- what the closure tells -/
def ordC (p1 v1 p2 v2 : Bs) : Int := if p1 = p2 then (if hdV v1 = hdV v2 then txC (tlV v1) (tlV v2) else verC (hdV v1) (hdV v2)) else txC p1 p2
theorem nStr_of {l : Bs} (h : (47 : UInt8) ∉ l) : ∀ c ∈ l, nStr c = true := fun c hc => by unfold nStr; simp; rintro rfl; exact h hc
theorem hd_no {x : ByteArray} (h : (47 : UInt8) ∉ x.data.toList) : hdV x.data.toList = x.data.toList ∧ tlV x.data.toList = (⟨#[]⟩ : ByteArray).data.toList := by
  have := takeWhile_at (p := nStr) (l := x.data.toList) (k := x.data.toList.length) (by rw [List.take_length]; exact nStr_of h) (.inl rfl)
  unfold hdV tlV
  rw [this.1, this.2, List.take_length, List.drop_length]; exact ⟨rfl, rfl⟩
theorem hd_yes {x : ByteArray} {k : Nat} (h : StrokeAt x k) : hdV x.data.toList = (x.extract 0 k).data.toList ∧ tlV x.data.toList = (x.extract k x.size).data.toList := by
  have := takeWhile_at (p := nStr) (l := x.data.toList) (k := k) (nStr_of h.2.2) (.inr ⟨47, h.2.1, rfl⟩)
  unfold hdV tlV
  rw [this.1, this.2, extract_take, extract_drop]; exact ⟨rfl, rfl⟩
theorem first47 : ∀ (l : Bs), (47 : UInt8) ∈ l → ∃ k, k < l.length ∧ l[k]? = some 47 ∧ (47 : UInt8) ∉ l.take k
  | [], h => by cases h
  | c :: r, h => by
    by_cases hc : c = 47
    · exact ⟨0, by simp, by simp [hc], by simp⟩
    · have hr : (47 : UInt8) ∈ r := by
        rcases List.mem_cons.1 h with h | h
        · exact absurd h.symm hc
        · exact h
      obtain ⟨k, h1, h2, h3⟩ := first47 r hr
      exact ⟨k + 1, by simp; omega, by simpa using h2, by simp [List.take_succ_cons, h3]; exact fun e => hc e.symm⟩
def IdxK (n : Int) (w : World) (e : Ending) (w' : World) : Prop := e = .returned (.int .i64 n) ∧ w = w'
theorem stroke_or (x : ByteArray) (hx : x.size ≤ 2147483647) : ((47 : UInt8) ∉ x.data.toList ∧ ∀ w, Calls Try.prog 54 #[.string x, .string ⟨#[47]⟩] w (IdxK (-1) w)) ∨ ∃ k : Nat, StrokeAt x k ∧ ∀ w, Calls Try.prog 54 #[.string x, .string ⟨#[47]⟩] w (IdxK k w) := by
  have hsep : (⟨#[47]⟩ : ByteArray).data.toList = [47] := rfl
  by_cases h : (47 : UInt8) ∈ x.data.toList
  · obtain ⟨k, h1, h2, h3⟩ := first47 _ h
    have hk : StrokeAt x k := ⟨by rw [← size_len]; exact h1, h2, h3⟩
    exact .inr ⟨k, hk, fun w => (zzIndex_any x ⟨#[47]⟩ 47 hsep w (by omega)).mono fun e w' ⟨n, he, hn, hw⟩ => ⟨by rw [he, idx_stroke hn hk], hw⟩⟩
  · refine .inl ⟨h, fun w => (zzIndex_any x ⟨#[47]⟩ 47 hsep w (by omega)).mono fun e w' ⟨n, he, hn, hw⟩ => ⟨?_, hw⟩⟩
    rcases hn with ⟨rfl, _⟩ | ⟨m, rfl, _, h5, _⟩
    · exact he
    · exact absurd (List.mem_of_getElem? h5) h

def ClE (n : Int) (W : World) (e : Ending) (w' : World) : Prop := e = .returned (.int .i64 n) ∧ ∃ q os', w' = grow (W.drewN q) os'

set_option maxHeartbeats 4000000 in
theorem closGen (p q x y : ByteArray) (W : World) (hp : p.size ≤ 2147483647) (hq : q.size ≤ 2147483647) (hx : x.size ≤ 2147483647) (hy : y.size ≤ 2147483647) :
    Calls Try.prog 52 #[.agg #[.string p, .string x], .agg #[.string q, .string y]] W (ClE (ordC p.data.toList x.data.toList q.data.toList y.data.toList) W) := by
  have B0 := Lib.hid (BelowD.refl W.heap.size W)
  cases hpq : (p.toList == q.toList) with
  | false =>
    have E : Hid (ordC p.data.toList x.data.toList q.data.toList y.data.toList = txC p.data.toList q.data.toList) := Lib.hid (by unfold ordC; rw [if_neg (str_ne hpq)])
    have C := Lib.hid (fun w => strCmp_any p q w)
    generalize txC p.data.toList q.data.toList = r at *
    generalize ordC p.data.toList x.data.toList q.data.toList y.data.toList = L at *
    go_enter Try.func52, Try.ntmps52
    go_wp2_with fail
    refine (C.out _).mono ?_
    rintro e w' ⟨rfl, rfl⟩
    go_wp2
    go_ret
    exact ⟨ret_int E.out.symm, (belowD_al (belowD_al B0.out _) _).grow⟩
  | true =>
    have E : Hid (ordC p.data.toList x.data.toList q.data.toList y.data.toList = if hdV x.data.toList = hdV y.data.toList then txC (tlV x.data.toList) (tlV y.data.toList) else verC (hdV x.data.toList) (hdV y.data.toList)) := Lib.hid (by unfold ordC; rw [if_pos (str_eq hpq)])
    generalize ordC p.data.toList x.data.toList q.data.toList y.data.toList = L at *
    rcases stroke_or x hx with ⟨nx, ix⟩ | ⟨k, kx, ix⟩
    · have IX := Lib.hid ix
      obtain ⟨hx1, hx2⟩ := hd_no nx
      clear ix nx
      rcases stroke_or y hy with ⟨ny, iy⟩ | ⟨m, ky, iy⟩
      · have IY := Lib.hid iy
        obtain ⟨hy1, hy2⟩ := hd_no ny
        clear iy ny
        cases hT : ((x).toList == (y).toList) with
        | true =>
          have EE : Hid (L = cmpS (⟨#[]⟩) (⟨#[]⟩)) := Lib.hid (by rw [E.out, hx1, hy1, hx2, hy2, if_pos (str_eq hT), cmpS_eq])
          have C := Lib.hid (fun w => cmpStr_any (⟨#[]⟩) (⟨#[]⟩) w)
          generalize cmpS (⟨#[]⟩) (⟨#[]⟩) = r at *
          clear E hx1 hx2 hy1 hy2
          go_enter Try.func52, Try.ntmps52
          go_wp2_with fail
          refine (IX.out _).mono ?_
          rintro e w' ⟨rfl, rfl⟩
          go_wp2_with fail
          refine (IY.out _).mono ?_
          rintro e w' ⟨rfl, rfl⟩
          go_wp2_with fail
          refine (C.out _).mono ?_
          rintro e w' ⟨rfl, rfl⟩
          go_wp2
          go_ret
          exact ⟨ret_int EE.out.symm, (belowD_al (belowD_al B0.out _) _).grow⟩
        | false =>
          have EE : Hid (L = verC (x).data.toList (y).data.toList) := Lib.hid (by rw [E.out, hx1, hy1, if_neg (str_ne hT)])
          have C := Lib.hid (fun w => semCompare_any (x) (y) w (by first | assumption | (simp; omega)) (by first | assumption | (simp; omega)))
          generalize verC (x).data.toList (y).data.toList = r at *
          clear E hx1 hx2 hy1 hy2
          go_enter Try.func52, Try.ntmps52
          go_wp2_with fail
          refine (IX.out _).mono ?_
          rintro e w' ⟨rfl, rfl⟩
          go_wp2_with fail
          refine (IY.out _).mono ?_
          rintro e w' ⟨rfl, rfl⟩
          go_wp2_with fail
          refine (C.out _).mono ?_
          rintro e w' ⟨rfl, hb⟩
          have HB := Lib.hid hb
          clear hb
          go_wp2
          go_ret
          exact ⟨ret_int EE.out.symm, (belowD_tr (belowD_al (belowD_al B0.out _) _) HB.out).grow⟩
      · have IY := Lib.hid iy
        obtain ⟨hy1, hy2⟩ := hd_yes ky
        have ky1 := ky.1
        clear iy ky
        cases hT : ((x).toList == (y.extract 0 m).toList) with
        | true =>
          have EE : Hid (L = cmpS (⟨#[]⟩) (y.extract m y.size)) := Lib.hid (by rw [E.out, hx1, hy1, hx2, hy2, if_pos (str_eq hT), cmpS_eq])
          have C := Lib.hid (fun w => cmpStr_any (⟨#[]⟩) (y.extract m y.size) w)
          generalize cmpS (⟨#[]⟩) (y.extract m y.size) = r at *
          clear E hx1 hx2 hy1 hy2
          go_enter Try.func52, Try.ntmps52
          go_wp2_with fail
          refine (IX.out _).mono ?_
          rintro e w' ⟨rfl, rfl⟩
          go_wp2_with fail
          refine (IY.out _).mono ?_
          rintro e w' ⟨rfl, rfl⟩
          go_wp2
          go_quiet (fail)
          go_wp2_with fail
          refine (C.out _).mono ?_
          rintro e w' ⟨rfl, rfl⟩
          go_wp2
          go_ret
          exact ⟨ret_int EE.out.symm, (belowD_drewN (belowD_al (belowD_al B0.out _) _) _).grow⟩
        | false =>
          have EE : Hid (L = verC (x).data.toList (y.extract 0 m).data.toList) := Lib.hid (by rw [E.out, hx1, hy1, if_neg (str_ne hT)])
          have C := Lib.hid (fun w => semCompare_any (x) (y.extract 0 m) w (by first | assumption | (simp; omega)) (by first | assumption | (simp; omega)))
          generalize verC (x).data.toList (y.extract 0 m).data.toList = r at *
          clear E hx1 hx2 hy1 hy2
          go_enter Try.func52, Try.ntmps52
          go_wp2_with fail
          refine (IX.out _).mono ?_
          rintro e w' ⟨rfl, rfl⟩
          go_wp2_with fail
          refine (IY.out _).mono ?_
          rintro e w' ⟨rfl, rfl⟩
          go_wp2
          go_quiet (fail)
          go_wp2_with fail
          refine (C.out _).mono ?_
          rintro e w' ⟨rfl, hb⟩
          have HB := Lib.hid hb
          clear hb
          go_wp2
          go_ret
          exact ⟨ret_int EE.out.symm, (belowD_tr (belowD_drewN (belowD_al (belowD_al B0.out _) _) _) HB.out).grow⟩
    · have IX := Lib.hid ix
      obtain ⟨hx1, hx2⟩ := hd_yes kx
      have kx1 := kx.1
      clear ix kx
      rcases stroke_or y hy with ⟨ny, iy⟩ | ⟨m, ky, iy⟩
      · have IY := Lib.hid iy
        obtain ⟨hy1, hy2⟩ := hd_no ny
        clear iy ny
        cases hT : ((x.extract 0 k).toList == (y).toList) with
        | true =>
          have EE : Hid (L = cmpS (x.extract k x.size) (⟨#[]⟩)) := Lib.hid (by rw [E.out, hx1, hy1, hx2, hy2, if_pos (str_eq hT), cmpS_eq])
          have C := Lib.hid (fun w => cmpStr_any (x.extract k x.size) (⟨#[]⟩) w)
          generalize cmpS (x.extract k x.size) (⟨#[]⟩) = r at *
          clear E hx1 hx2 hy1 hy2
          go_enter Try.func52, Try.ntmps52
          go_wp2_with fail
          refine (IX.out _).mono ?_
          rintro e w' ⟨rfl, rfl⟩
          go_wp2
          go_quiet (fail)
          go_wp2_with fail
          refine (IY.out _).mono ?_
          rintro e w' ⟨rfl, rfl⟩
          go_wp2_with fail
          refine (C.out _).mono ?_
          rintro e w' ⟨rfl, rfl⟩
          go_wp2
          go_ret
          exact ⟨ret_int EE.out.symm, (belowD_drewN (belowD_al (belowD_al B0.out _) _) _).grow⟩
        | false =>
          have EE : Hid (L = verC (x.extract 0 k).data.toList (y).data.toList) := Lib.hid (by rw [E.out, hx1, hy1, if_neg (str_ne hT)])
          have C := Lib.hid (fun w => semCompare_any (x.extract 0 k) (y) w (by first | assumption | (simp; omega)) (by first | assumption | (simp; omega)))
          generalize verC (x.extract 0 k).data.toList (y).data.toList = r at *
          clear E hx1 hx2 hy1 hy2
          go_enter Try.func52, Try.ntmps52
          go_wp2_with fail
          refine (IX.out _).mono ?_
          rintro e w' ⟨rfl, rfl⟩
          go_wp2
          go_quiet (fail)
          go_wp2_with fail
          refine (IY.out _).mono ?_
          rintro e w' ⟨rfl, rfl⟩
          go_wp2_with fail
          refine (C.out _).mono ?_
          rintro e w' ⟨rfl, hb⟩
          have HB := Lib.hid hb
          clear hb
          go_wp2
          go_ret
          exact ⟨ret_int EE.out.symm, (belowD_tr (belowD_drewN (belowD_al (belowD_al B0.out _) _) _) HB.out).grow⟩
      · have IY := Lib.hid iy
        obtain ⟨hy1, hy2⟩ := hd_yes ky
        have ky1 := ky.1
        clear iy ky
        cases hT : ((x.extract 0 k).toList == (y.extract 0 m).toList) with
        | true =>
          have EE : Hid (L = cmpS (x.extract k x.size) (y.extract m y.size)) := Lib.hid (by rw [E.out, hx1, hy1, hx2, hy2, if_pos (str_eq hT), cmpS_eq])
          have C := Lib.hid (fun w => cmpStr_any (x.extract k x.size) (y.extract m y.size) w)
          generalize cmpS (x.extract k x.size) (y.extract m y.size) = r at *
          clear E hx1 hx2 hy1 hy2
          go_enter Try.func52, Try.ntmps52
          go_wp2_with fail
          refine (IX.out _).mono ?_
          rintro e w' ⟨rfl, rfl⟩
          go_wp2
          go_quiet (fail)
          go_wp2_with fail
          refine (IY.out _).mono ?_
          rintro e w' ⟨rfl, rfl⟩
          go_wp2
          go_quiet (fail)
          go_wp2_with fail
          refine (C.out _).mono ?_
          rintro e w' ⟨rfl, rfl⟩
          go_wp2
          go_ret
          exact ⟨ret_int EE.out.symm, (belowD_drewN (belowD_al (belowD_al B0.out _) _) _).grow⟩
        | false =>
          have EE : Hid (L = verC (x.extract 0 k).data.toList (y.extract 0 m).data.toList) := Lib.hid (by rw [E.out, hx1, hy1, if_neg (str_ne hT)])
          have C := Lib.hid (fun w => semCompare_any (x.extract 0 k) (y.extract 0 m) w (by first | assumption | (simp; omega)) (by first | assumption | (simp; omega)))
          generalize verC (x.extract 0 k).data.toList (y.extract 0 m).data.toList = r at *
          clear E hx1 hx2 hy1 hy2
          go_enter Try.func52, Try.ntmps52
          go_wp2_with fail
          refine (IX.out _).mono ?_
          rintro e w' ⟨rfl, rfl⟩
          go_wp2
          go_quiet (fail)
          go_wp2_with fail
          refine (IY.out _).mono ?_
          rintro e w' ⟨rfl, rfl⟩
          go_wp2
          go_quiet (fail)
          go_wp2_with fail
          refine (C.out _).mono ?_
          rintro e w' ⟨rfl, hb⟩
          have HB := Lib.hid hb
          clear hb
          go_wp2
          go_ret
          exact ⟨ret_int EE.out.symm, (belowD_tr (belowD_drewN (belowD_al (belowD_al B0.out _) _) _) HB.out).grow⟩
end Go.Proofs.Ytdinaphcglmhoaa
