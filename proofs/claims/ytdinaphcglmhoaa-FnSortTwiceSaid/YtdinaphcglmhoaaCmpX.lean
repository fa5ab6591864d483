/-
  The walk of semver.comparePrerelease.
-/
import Derived.Test.YtdinaphcglmhoaaCmpW
namespace Go.Proofs.Ytdinaphcglmhoaa
open Go.RowKit
set_option linter.unusedVariables false
set_option linter.unusedSimpArgs false

theorem empty_true {s : ByteArray} (h : s.data.toList = []) : s.toList.isEmpty = true := by rw [Lib.toList_data, h]; rfl
theorem empty_false {s : ByteArray} (h : s.data.toList ≠ []) : s.toList.isEmpty = false ∧ 0 < s.size := by
  rw [Lib.toList_data]
  cases e : s.data.toList with
  | nil => exact absurd e h
  | cons => exact ⟨rfl, by rw [← size_len, e]; simp⟩
theorem empty_list {s : ByteArray} (h : s.toList.isEmpty = true) : s.data.toList = [] := by rw [Lib.toList_data] at h; simpa using h
theorem pcs_nil {u : Bs} (h : u = []) : pcs u = [] := by unfold pcs; rw [if_pos h]
theorem pcs_ne {u : Bs} (h : u ≠ []) : pcs u ≠ [] := by unfold pcs; rw [if_neg h]; exact cutL_ne _ _
theorem preC_left {x y : Bs} (h : x = []) (hy : y ≠ []) : preC (pk x) (pk y) = 1 := by rw [pk_pcs hy]; unfold pk; rw [if_pos h]; rfl
theorem preC_right {x y : Bs} (h : y = []) (hx : x ≠ []) : preC (pk x) (pk y) = -1 := by rw [pk_pcs hx]; unfold pk; rw [if_pos h]; rfl
theorem lexC_left {p : List Bs} (h : p ≠ []) : lexC idC [] p = -1 := by cases p with | nil => exact absurd rfl h | cons => rfl
theorem lexC_right {p : List Bs} (h : p ≠ []) : lexC idC p [] = 1 := by cases p with | nil => exact absurd rfl h | cons => rfl
theorem lexC_step {a b : Bs} {x y : List Bs} (h : a ≠ b) : lexC idC (a :: x) (b :: y) = idC a b := by
  unfold lexC; rw [if_pos (fun e => h (idC_good.eq _ _ e))]
theorem lexC_same {a b : Bs} {x y : List Bs} (h : a = b) : lexC idC (a :: x) (b :: y) = lexC idC x y := by
  subst h; show (if idC a a ≠ 0 then idC a a else lexC idC x y) = lexC idC x y; rw [idC_good.self]; rfl
theorem idC_tf {a b : Bs} (h : numD a = true) (k : numD b = false) : idC a b = -1 := by unfold numD at h k; unfold idC; rw [if_pos h, if_neg (by rw [k]; simp)]
theorem idC_ft {a b : Bs} (h : numD a = false) (k : numD b = true) : idC a b = 1 := by unfold numD at h k; unfold idC; rw [if_neg (by rw [h]; simp), if_pos k]
theorem idC_tt {a b : Bs} (h : numD a = true) (k : numD b = true) : idC a b = intC a b := by unfold numD at h k; unfold idC; rw [if_pos h, if_pos k]
theorem idC_ff {a b : Bs} (h : numD a = false) (k : numD b = false) : idC a b = txC a b := by unfold numD at h k; unfold idC; rw [if_neg (by rw [h]; simp), if_neg (by rw [k]; simp)]
theorem tail_data (u : ByteArray) : (u.extract 1 u.size).data.toList = u.data.toList.drop 1 := extract_drop u 1
theorem dropW_len (p : UInt8 → Bool) (l : Bs) : (l.dropWhile p).length ≤ l.length := by
  have := congrArg List.length (List.takeWhile_append_dropWhile (p := p) (l := l)); rw [List.length_append] at this; omega
def strSize : Value → Nat
  | .string s => s.size
  | _ => 0
def QE (n : Int) (w : World) (e : Ending) (w' : World) : Prop := e = .returned (.int .i64 n) ∧ ∃ q, w' = w.drewN q

set_option maxHeartbeats 4000000 in
theorem comparePre_any (x y : ByteArray) (w : World) (hx : x.size ≤ 4294967296) (hy : y.size ≤ 4294967296) (dx : Hd x.data.toList) (dy : Hd y.data.toList) :
    Calls Try.prog 69 #[.string x, .string y] w (QE (preC (pk x.data.toList) (pk y.data.toList)) w) := by
  cases he : (x.toList == y.toList) with
  | true =>
    have E : Hid (preC (pk x.data.toList) (pk y.data.toList) = 0) := Lib.hid (by rw [str_eq he]; exact preC_good.self _)
    go_enter Try.func69, Try.ntmps69
    go_wp2
    go_ret
    exact ⟨ret_int E.out.symm, 0, rfl⟩
  | false =>
    have hne := str_ne he
    by_cases hx0 : x.data.toList = []
    · have hy0 : y.data.toList ≠ [] := fun e => hne (by rw [hx0, e])
      have E := Lib.hid (preC_left hx0 hy0)
      have ex := empty_true hx0
      have ey := (empty_false hy0).1
      clear hne hx0 hy0 dx dy
      go_enter Try.func69, Try.ntmps69
      go_wp2
      go_ret
      exact ⟨ret_int E.out.symm, 0, rfl⟩
    · by_cases hy0 : y.data.toList = []
      · have E := Lib.hid (preC_right hy0 hx0)
        have ex := (empty_false hx0).1
        have ey := empty_true hy0
        clear hne hx0 hy0 dx dy
        go_enter Try.func69, Try.ntmps69
        go_wp2
        go_ret
        exact ⟨ret_int E.out.symm, 0, rfl⟩
      · have ex := (empty_false hx0).1
        have ey := (empty_false hy0).1
        have hpn : pcs x.data.toList ≠ pcs y.data.toList := fun e => hne (pcs_inj dx dy hx0 hy0 e)
        have E0 : preC (pk x.data.toList) (pk y.data.toList) = lexC idC (pcs x.data.toList) (pcs y.data.toList) := by rw [pk_pcs hx0, pk_pcs hy0]; rfl
        have INV : Hid (preC (pk x.data.toList) (pk y.data.toList) = lexC idC (pcs x.data.toList) (pcs y.data.toList) ∧ pcs x.data.toList ≠ pcs y.data.toList) := Lib.hid ⟨E0, hpn⟩
        clear hne hx0 hy0 dx dy hpn E0
        generalize preC (pk x.data.toList) (pk y.data.toList) = L at *
        go_enter Try.func69, Try.ntmps69
        go_wp2
        go_loopw [0, 1] (fun a b wr => ∃ (u v : ByteArray) (q : Nat), a = .string u ∧ b = .string v ∧ u.size ≤ 4294967296 ∧ v.size ≤ 4294967296 ∧ Hid (L = lexC idC (pcs u.data.toList) (pcs v.data.toList) ∧ pcs u.data.toList ≠ pcs v.data.toList) ∧ wr = w.drewN q) (fun a _ _ => strSize a)
        case atStart => exact ⟨x, y, 0, rfl, rfl, hx, hy, INV, rfl⟩
        case round =>
          obtain ⟨u, v, q, rfl, rfl, hu, hv, hi, rfl⟩ := hrel
          clear INV ex ey he
          by_cases hu0 : u.data.toList = []
          · have eu := empty_true hu0
            have E : Hid (L = -1) := Lib.hid (by
              have hn := hi.out.2
              rw [hi.out.1, pcs_nil hu0]; rw [pcs_nil hu0] at hn; exact lexC_left hn.symm)
            clear hu0 hi
            go_wp2
            go_ret
            exact ⟨ret_int E.out.symm, _, rfl⟩
          · have eu := (empty_false hu0).1
            have su := (empty_false hu0).2
            by_cases hv0 : v.data.toList = []
            · have ev := empty_true hv0
              have E : Hid (L = 1) := Lib.hid (by rw [hi.out.1, pcs_nil hv0]; exact lexC_right (pcs_ne hu0))
              clear hu0 hv0 hi
              go_wp2
              go_ret
              exact ⟨ret_int E.out.symm, _, rfl⟩
            · have ev := (empty_false hv0).1
              have sv := (empty_false hv0).2
              have PU := Lib.hid (pcs_step hu0 (tail_data u).symm)
              have PV' := Lib.hid (pcs_step hv0 (tail_data v).symm)
              clear hu0 hv0
              have s1 : (u.extract 1 u.size).size ≤ 4294967296 := by simp; omega
              have s2 : (v.extract 1 v.size).size ≤ 4294967296 := by simp; omega
              have S1 : Hid ((u.extract 1 u.size).size < u.size) := Lib.hid (by simp; omega)
              have N1 := Lib.hid (fun wx => nextIdent_any (u.extract 1 u.size) wx s1)
              have N2 := Lib.hid (fun wx => nextIdent_any (v.extract 1 v.size) wx s2)
              go_wp2_with fail
              refine (N1.out _).mono ?_
              rintro e w1 ⟨a, u2, q1, rfl, ha, hu2, rfl⟩
              go_wp2_with fail
              refine (N2.out _).mono ?_
              rintro e w1 ⟨b, v2, q2, rfl, hb, hv2, rfl⟩
              have la : a.size ≤ 4294967296 := by
                rw [← size_len, ha]; have := List.takeWhile_sublist (l := (u.extract 1 u.size).data.toList) nDot |>.length_le; rw [size_len] at this; omega
              have lb : b.size ≤ 4294967296 := by
                rw [← size_len, hb]; have := List.takeWhile_sublist (l := (v.extract 1 v.size).data.toList) nDot |>.length_le; rw [size_len] at this; omega
              have lu : u2.size ≤ 4294967296 ∧ u2.size < u.size := by
                have := dropW_len nDot (u.extract 1 u.size).data.toList; rw [← hu2, size_len, size_len] at this; have := S1.out; omega
              have lv : v2.size ≤ 4294967296 := by
                have := dropW_len nDot (v.extract 1 v.size).data.toList; rw [← hv2, size_len, size_len] at this; omega
              have HH : Hid (L = lexC idC (a.data.toList :: pcs u2.data.toList) (b.data.toList :: pcs v2.data.toList) ∧ a.data.toList :: pcs u2.data.toList ≠ b.data.toList :: pcs v2.data.toList) := Lib.hid (by
                have h := hi.out
                rw [PU.out, PV'.out, ← ha, ← hb, ← hu2, ← hv2] at h; exact h)
              have LU := Lib.hid lu.2
              have lu1 := lu.1
              clear ha hb hu2 hv2 hi PU PV' N1 N2 S1 lu
              cases hab : (a.toList == b.toList) with
              | true =>
                have F : Hid (L = lexC idC (pcs u2.data.toList) (pcs v2.data.toList) ∧ pcs u2.data.toList ≠ pcs v2.data.toList) := Lib.hid (by
                  have h := HH.out
                  rw [lexC_same (str_eq hab)] at h
                  exact ⟨h.1, fun e => h.2 (by rw [str_eq hab, e])⟩)
                clear HH
                go_wp2
                go_roundw
                case rel => exact ⟨u2, v2, _, rfl, rfl, lu1, lv, F, by first | rfl | (rw [World.drewN_drewN, World.drewN_drewN])⟩
                case measure => simp only [strSize]; exact LU.out
              | false =>
                have hn := str_ne hab
                have H2 : Hid (L = idC a.data.toList b.data.toList) := Lib.hid (by rw [HH.out.1, lexC_step hn])
                have HN := Lib.hid hn
                clear HH hn
                have A := Lib.hid (fun wx => isNum_any a wx la)
                have B := Lib.hid (fun wx => isNum_any b wx lb)
                cases hna : numD a.data.toList <;> cases hnb : numD b.data.toList <;> rw [hna] at A <;> rw [hnb] at B
                · cases hl : Op.bytesLess a.toList b.toList with
                  | true =>
                    have E : Hid (L = -1) := Lib.hid (by rw [H2.out, idC_ff hna hnb, txC_lt hl])
                    clear hna hnb H2 HN
                    go_wp2_with fail
                    refine (A.out _).mono ?_
                    rintro e w' ⟨rfl, rfl⟩
                    go_wp2_with fail
                    refine (B.out _).mono ?_
                    rintro e w' ⟨rfl, rfl⟩
                    go_wp2
                    go_ret
                    exact ⟨ret_int E.out.symm, _, by first | rfl | (rw [World.drewN_drewN, World.drewN_drewN])⟩
                  | false =>
                    have E : Hid (L = 1) := Lib.hid (by rw [H2.out, idC_ff hna hnb, txC_gt hl HN.out])
                    clear hna hnb H2 HN
                    go_wp2_with fail
                    refine (A.out _).mono ?_
                    rintro e w' ⟨rfl, rfl⟩
                    go_wp2_with fail
                    refine (B.out _).mono ?_
                    rintro e w' ⟨rfl, rfl⟩
                    go_wp2
                    go_ret
                    exact ⟨ret_int E.out.symm, _, by first | rfl | (rw [World.drewN_drewN, World.drewN_drewN])⟩
                · have E : Hid (L = 1) := Lib.hid (by rw [H2.out, idC_ft hna hnb])
                  clear hna hnb H2 HN
                  go_wp2_with fail
                  refine (A.out _).mono ?_
                  rintro e w' ⟨rfl, rfl⟩
                  go_wp2_with fail
                  refine (B.out _).mono ?_
                  rintro e w' ⟨rfl, rfl⟩
                  go_wp2
                  go_ret
                  exact ⟨ret_int E.out.symm, _, by first | rfl | (rw [World.drewN_drewN, World.drewN_drewN])⟩
                · have E : Hid (L = -1) := Lib.hid (by rw [H2.out, idC_tf hna hnb])
                  clear hna hnb H2 HN
                  go_wp2_with fail
                  refine (A.out _).mono ?_
                  rintro e w' ⟨rfl, rfl⟩
                  go_wp2_with fail
                  refine (B.out _).mono ?_
                  rintro e w' ⟨rfl, rfl⟩
                  go_wp2
                  go_ret
                  exact ⟨ret_int E.out.symm, _, by first | rfl | (rw [World.drewN_drewN, World.drewN_drewN])⟩
                · have H3 : Hid (L = intC a.data.toList b.data.toList) := Lib.hid (by rw [H2.out, idC_tt hna hnb])
                  clear hna hnb H2
                  rcases Nat.lt_trichotomy a.size b.size with h | h | h
                  · have E : Hid (L = -1) := Lib.hid (by rw [H3.out, intC_lt h])
                    clear H3 HN
                    go_wp2_with fail
                    refine (A.out _).mono ?_
                    rintro e w' ⟨rfl, rfl⟩
                    go_wp2_with fail
                    refine (B.out _).mono ?_
                    rintro e w' ⟨rfl, rfl⟩
                    go_wp2
                    go_ret
                    exact ⟨ret_int E.out.symm, _, by first | rfl | (rw [World.drewN_drewN, World.drewN_drewN])⟩
                  · have H4 : Hid (L = txC a.data.toList b.data.toList) := Lib.hid (by rw [H3.out, intC_tx h])
                    have h1 : a.size ≤ b.size := by omega
                    have h2 : b.size ≤ a.size := by omega
                    clear h H3
                    cases hl : Op.bytesLess a.toList b.toList with
                    | true =>
                      have E : Hid (L = -1) := Lib.hid (by rw [H4.out, txC_lt hl])
                      clear H4 HN
                      go_wp2_with fail
                      refine (A.out _).mono ?_
                      rintro e w' ⟨rfl, rfl⟩
                      go_wp2_with fail
                      refine (B.out _).mono ?_
                      rintro e w' ⟨rfl, rfl⟩
                      go_wp2
                      go_ret
                      exact ⟨ret_int E.out.symm, _, by first | rfl | (rw [World.drewN_drewN, World.drewN_drewN])⟩
                    | false =>
                      have E : Hid (L = 1) := Lib.hid (by rw [H4.out, txC_gt hl HN.out])
                      clear H4 HN
                      go_wp2_with fail
                      refine (A.out _).mono ?_
                      rintro e w' ⟨rfl, rfl⟩
                      go_wp2_with fail
                      refine (B.out _).mono ?_
                      rintro e w' ⟨rfl, rfl⟩
                      go_wp2
                      go_ret
                      exact ⟨ret_int E.out.symm, _, by first | rfl | (rw [World.drewN_drewN, World.drewN_drewN])⟩
                  · have E : Hid (L = 1) := Lib.hid (by rw [H3.out, intC_gt h])
                    have h' : ¬ a.size < b.size := by omega
                    clear H3 HN
                    go_wp2_with fail
                    refine (A.out _).mono ?_
                    rintro e w' ⟨rfl, rfl⟩
                    go_wp2_with fail
                    refine (B.out _).mono ?_
                    rintro e w' ⟨rfl, rfl⟩
                    go_wp2
                    go_ret
                    exact ⟨ret_int E.out.symm, _, by first | rfl | (rw [World.drewN_drewN, World.drewN_drewN])⟩
end Go.Proofs.Ytdinaphcglmhoaa
