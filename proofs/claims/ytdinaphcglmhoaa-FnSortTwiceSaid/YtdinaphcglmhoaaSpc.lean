/-
  The walks of spec.pre at any two texts.
-/
import Derived.Test.YtdinaphcglmhoaaSpcN
import Derived.Test.YtdinaphcglmhoaaCut
import Derived.Test.YtdinaphcglmhoaaSmall
import Derived.Deep.RegionHeld3
namespace Go.Proofs.Ytdinaphcglmhoaa
open Go.RowKit
set_option linter.unusedVariables false
set_option linter.unusedSimpArgs false

theorem TxRow.drewN {w : World} {g : Nat} {l : List Bs} (h : TxRow w g l) (n : Nat) : TxRow (w.drewN n) g l := h
theorem TxRow.some {w : World} {g : Nat} {l : List Bs} (h : TxRow w g l) {k : Nat} (hk : k < l.length) : ∃ a : ByteArray, a.data.toList = l[k] ∧ w.cell? ⟨g, k, none⟩ = some (.string a) :=
  ⟨tx l[k], by simp, h.at_ k hk⟩
theorem below_dn {g : Nat} {w w' : World} (h : Below g w w') (n : Nat) : Below g w (w'.drewN n) := ⟨h.os, h.tape, h.output, h.size, h.block⟩
theorem drop_at' {l : List Bs} {k : Nat} (h : k < l.length) : l.drop k = l[k] :: l.drop (k + 1) := List.drop_eq_getElem_cons h
theorem digB_numD {l : Bs} (h : l ≠ []) : digB l = numD l := by
  rw [digB_eq]; unfold numD
  cases l with
  | nil => exact absurd rfl h
  | cons => simp
def PreE (n : Int) (w : World) (e : Ending) (w' : World) : Prop := e = .returned (.int .i64 n) ∧ Below w.heap.size w w'
def CutR (l : List Bs) (w : World) (e : Ending) (w' : World) : Prop := ∃ g cap, e = .returned (.slice (some ⟨g, 0, none⟩) l.length cap) ∧ Hid (TxRow w' g l) ∧ Hid (Below w.heap.size w w')
theorem cut_r (s : ByteArray) (w : World) (hs : s.size ≤ 4294967296) : Calls Try.prog 23 #[.string s, .int .u8 46] w (CutR (cutL s.data.toList 46) w) :=
  (cut_any s 46 w hs).mono fun e w' ⟨g, cap, he, hr, hb⟩ => ⟨g, cap, he, Lib.hid hr, Lib.hid hb⟩

set_option maxRecDepth 100000 in
set_option maxHeartbeats 4000000 in
theorem prerel_any (x y : ByteArray) (w : World) (hx : x.size ≤ 4294967296) (hy : y.size ≤ 4294967296) (dx : Hd x.data.toList) (dy : Hd y.data.toList)
    (nx : x.data.toList ≠ [] → ∀ p ∈ cutL (x.data.toList.drop 1) 46, p ≠ []) (ny : y.data.toList ≠ [] → ∀ p ∈ cutL (y.data.toList.drop 1) 46, p ≠ []) :
    Calls Try.prog 35 #[.string x, .string y] w (PreE (preC (pk x.data.toList) (pk y.data.toList)) w) := by
  have hb0 := Lib.hid (Below.refl w.heap.size w)
  cases he : (x.toList == y.toList) with
  | true =>
    have E : Hid (preC (pk x.data.toList) (pk y.data.toList) = 0) := Lib.hid (by rw [str_eq he]; exact preC_good.self _)
    clear nx ny dx dy
    go_enter Try.func35, Try.ntmps35
    go_wp2
    go_ret
    exact ⟨ret_int E.out.symm, hb0.out⟩
  | false =>
    have hne := str_ne he
    by_cases hx0 : x.data.toList = []
    · have hy0 : y.data.toList ≠ [] := fun e => hne (by rw [hx0, e])
      have E := Lib.hid (preC_left hx0 hy0)
      have ex := empty_true hx0
      have ey := (empty_false hy0).1
      clear hne hx0 hy0 dx dy nx ny
      go_enter Try.func35, Try.ntmps35
      go_wp2
      go_ret
      exact ⟨ret_int E.out.symm, hb0.out⟩
    · by_cases hy0 : y.data.toList = []
      · have E := Lib.hid (preC_right hy0 hx0)
        have ex := (empty_false hx0).1
        have ey := empty_true hy0
        clear hne hx0 hy0 dx dy nx ny
        go_enter Try.func35, Try.ntmps35
        go_wp2
        go_ret
        exact ⟨ret_int E.out.symm, hb0.out⟩
      · have ex := (empty_false hx0).1
        have ey := (empty_false hy0).1
        have sx := (empty_false hx0).2
        have sy := (empty_false hy0).2
        have C1 := fun wx => cut_r (x.extract 1 x.size) wx (by simp; omega)
        have C2 := fun wx => cut_r (y.extract 1 y.size) wx (by simp; omega)
        rw [tail_data] at C1 C2
        have e1 : pcs x.data.toList = cutL (x.data.toList.drop 1) 46 := by unfold pcs; rw [if_neg hx0]
        have e2 : pcs y.data.toList = cutL (y.data.toList.drop 1) 46 := by unfold pcs; rw [if_neg hy0]
        have hpn : pcs x.data.toList ≠ pcs y.data.toList := fun e => hne (pcs_inj dx dy hx0 hy0 e)
        have E0 : preC (pk x.data.toList) (pk y.data.toList) = lexC idC (pcs x.data.toList) (pcs y.data.toList) := by rw [pk_pcs hx0, pk_pcs hy0]; rfl
        rw [e1, e2] at E0 hpn
        have NX := Lib.hid (nx hx0)
        have NY := Lib.hid (ny hy0)
        have BX : Hid (∀ p ∈ cutL (x.data.toList.drop 1) 46, p.length ≤ 4294967296) := Lib.hid (fun p hp => by
          have := cutL_size _ _ p hp; rw [List.length_drop, size_len] at this; omega)
        have BY : Hid (∀ p ∈ cutL (y.data.toList.drop 1) 46, p.length ≤ 4294967296) := Lib.hid (fun p hp => by
          have := cutL_size _ _ p hp; rw [List.length_drop, size_len] at this; omega)
        have lx : (cutL (x.data.toList.drop 1) 46).length ≤ 4294967297 := by have := cutL_len (x.data.toList.drop 1) 46; rw [List.length_drop, size_len] at this; omega
        have ly : (cutL (y.data.toList.drop 1) 46).length ≤ 4294967297 := by have := cutL_len (y.data.toList.drop 1) 46; rw [List.length_drop, size_len] at this; omega
        clear hne hx0 hy0 dx dy nx ny e1 e2
        have D1 := Lib.hid C1
        have D2 := Lib.hid C2
        have F0 := Lib.hid E0
        have FN := Lib.hid hpn
        clear C1 C2 E0 hpn
        have ix : (1 : Int) ≤ (x.size : Int) := by omega
        have iy : (1 : Int) ≤ (y.size : Int) := by omega
        generalize cutL (x.data.toList.drop 1) 46 = X at *
        generalize cutL (y.data.toList.drop 1) 46 = Y at *
        generalize preC (pk x.data.toList) (pk y.data.toList) = L at *
        go_enter Try.func35, Try.ntmps35
        go_wp2_with fail
        go_region_held3 (fun w' => Hid (Below w.heap.size w w'))
          (first
            | exact Lib.hid (below_tr (Hid.out (by assumption)) b2.out)
            | exact Lib.hid (below_tr (Hid.out (by assumption)) b1.out)
            | exact Lib.hid (Below.drew hb0.out))
          (first
            | (go_at_call_of 23 (Value.string (x.extract 1 x.size)); refine (D1.out _).mono ?_; rintro e w1 ⟨g1, cap1, rfl, r1, b1⟩)
            | (go_at_call_of 23 (Value.string (y.extract 1 y.size)); refine (D2.out _).mono ?_; rintro e w2 ⟨g2, cap2, rfl, r2, b2⟩))
        rename_i hH
        have R1 := Lib.hid (r1.out.below b2.out)
        have R2 := r2
        clear b1 b2 r1 r2 D1 D2 ex ey he hb0 sx sy ix iy hx hy
        go_wp2
        go_loopw [29] (fun i wr => ∃ k : Nat, k ≤ X.length ∧ k ≤ Y.length ∧ i = .int .i64 k ∧ Hid (L = lexC idC (X.drop k) (Y.drop k) ∧ X.drop k ≠ Y.drop k) ∧ Hid (TxRow wr g1 X) ∧ Hid (TxRow wr g2 Y) ∧ Hid (Below w.heap.size w wr)) (fun i _ => X.length - (intOf i).toNat)
        case atStart => exact ⟨0, Nat.zero_le _, Nat.zero_le _, rfl, Lib.hid ⟨by simpa using F0.out, by simpa using FN.out⟩, R1, R2, hH⟩
        case round =>
          obtain ⟨k, hk1, hk2, rfl, hi, r1, r2, hb⟩ := hrel
          clear F0 FN R1 R2 hH
          by_cases hlt : k < X.length ∧ k < Y.length
          · obtain ⟨h1, h2⟩ := hlt
            obtain ⟨a, ha, c1⟩ := r1.out.some h1
            obtain ⟨b, hb', c2⟩ := r2.out.some h2
            have HA := Lib.hid ha
            have HB := Lib.hid hb'
            have i1 : (k : Int) < (X.length : Int) := by omega
            have i2 : (k : Int) < (Y.length : Int) := by omega
            have i0 : (0 : Int) ≤ (k : Int) := by omega
            have la : a.size ≤ 4294967296 := by rw [← size_len, ha]; exact BX.out _ (List.getElem_mem _)
            have lb : b.size ≤ 4294967296 := by rw [← size_len, hb']; exact BY.out _ (List.getElem_mem _)
            have na : a.data.toList ≠ [] := by rw [ha]; exact NX.out _ (List.getElem_mem _)
            have nb : b.data.toList ≠ [] := by rw [hb']; exact NY.out _ (List.getElem_mem _)
            clear ha hb'
            have HH : Hid (L = lexC idC (a.data.toList :: X.drop (k + 1)) (b.data.toList :: Y.drop (k + 1)) ∧ a.data.toList :: X.drop (k + 1) ≠ b.data.toList :: Y.drop (k + 1)) := Lib.hid (by
              have := hi.out; rw [drop_at' h1, drop_at' h2, ← HA.out, ← HB.out] at this; exact this)
            clear hi HA HB
            cases hab : (a.toList == b.toList) with
            | true =>
              have F : Hid (L = lexC idC (X.drop (k + 1)) (Y.drop (k + 1)) ∧ X.drop (k + 1) ≠ Y.drop (k + 1)) := Lib.hid (by
                have h := HH.out
                rw [lexC_same (str_eq hab)] at h
                exact ⟨h.1, fun e => h.2 (by rw [str_eq hab, e])⟩)
              clear HH na nb
              go_wp2
              go_quiet (fail)
              go_wp2
              go_roundw
              case rel => exact ⟨k + 1, by omega, by omega, by go_num, F, r1, r2, Lib.hid (below_dn hb.out _)⟩
              case measure => simp [intOf]; omega
            | false =>
              have hn := str_ne hab
              have H2 : Hid (L = idC a.data.toList b.data.toList) := Lib.hid (by rw [HH.out.1, lexC_step hn])
              have HN := Lib.hid hn
              clear HH hn r1 r2
              have A : Hid (∀ wx, Calls Try.prog 44 #[.string a] wx fun e w' => e = .returned (.bool (numD a.data.toList)) ∧ w' = wx) := Lib.hid (fun wx => (digits_any a wx (by unfold maxLen; omega)).mono fun e w' ⟨he, hw⟩ => ⟨by rw [he, digB_numD na], hw.symm⟩)
              have B : Hid (∀ wx, Calls Try.prog 44 #[.string b] wx fun e w' => e = .returned (.bool (numD b.data.toList)) ∧ w' = wx) := Lib.hid (fun wx => (digits_any b wx (by unfold maxLen; omega)).mono fun e w' ⟨he, hw⟩ => ⟨by rw [he, digB_numD nb], hw.symm⟩)
              cases hna : numD a.data.toList <;> cases hnb : numD b.data.toList <;> rw [hna] at A <;> rw [hnb] at B
              · cases hl : Op.bytesLess a.toList b.toList with
                | true =>
                  have E : Hid (L = -1) := Lib.hid (by rw [H2.out, idC_ff hna hnb, txC_lt hl])
                  clear hna hnb H2 HN na nb
                  go_wp2
                  go_quiet (fail)
                  have c1' : (wr.drewN nq).cell? ⟨g1, k, none⟩ = some (.string a) := c1
                  have c2' : (wr.drewN nq).cell? ⟨g2, k, none⟩ = some (.string b) := c2
                  have hbn : Hid (Below w.heap.size w (wr.drewN nq)) := Lib.hid (below_dn hb.out _)
                  clear c1 c2 hb
                  generalize wr.drewN nq = W at c1' c2' hbn ⊢
                  go_wp2_with fail
                  refine (A.out _).mono ?_
                  rintro e w' ⟨rfl, rfl⟩
                  go_wp2_with fail
                  go_quiet ((first | (go_at_call_of 44 (Value.string a); exact Calls.quiet_of_same (A.out _)) | (go_at_call_of 44 (Value.string b); exact Calls.quiet_of_same (B.out _))))
                  go_wp2
                  go_ret
                  exact ⟨ret_int E.out.symm, below_dn hbn.out _⟩
                | false =>
                  have E : Hid (L = 1) := Lib.hid (by rw [H2.out, idC_ff hna hnb, txC_gt hl HN.out])
                  clear hna hnb H2 HN na nb
                  go_wp2
                  go_quiet (fail)
                  have c1' : (wr.drewN nq).cell? ⟨g1, k, none⟩ = some (.string a) := c1
                  have c2' : (wr.drewN nq).cell? ⟨g2, k, none⟩ = some (.string b) := c2
                  have hbn : Hid (Below w.heap.size w (wr.drewN nq)) := Lib.hid (below_dn hb.out _)
                  clear c1 c2 hb
                  generalize wr.drewN nq = W at c1' c2' hbn ⊢
                  go_wp2_with fail
                  refine (A.out _).mono ?_
                  rintro e w' ⟨rfl, rfl⟩
                  go_wp2_with fail
                  go_quiet ((first | (go_at_call_of 44 (Value.string a); exact Calls.quiet_of_same (A.out _)) | (go_at_call_of 44 (Value.string b); exact Calls.quiet_of_same (B.out _))))
                  go_wp2
                  go_ret
                  exact ⟨ret_int E.out.symm, below_dn hbn.out _⟩
              · have E : Hid (L = 1) := Lib.hid (by rw [H2.out, idC_ft hna hnb])
                clear hna hnb H2 HN na nb
                go_wp2
                go_quiet (fail)
                have c1' : (wr.drewN nq).cell? ⟨g1, k, none⟩ = some (.string a) := c1
                have c2' : (wr.drewN nq).cell? ⟨g2, k, none⟩ = some (.string b) := c2
                have hbn : Hid (Below w.heap.size w (wr.drewN nq)) := Lib.hid (below_dn hb.out _)
                clear c1 c2 hb
                generalize wr.drewN nq = W at c1' c2' hbn ⊢
                go_wp2_with fail
                refine (A.out _).mono ?_
                rintro e w' ⟨rfl, rfl⟩
                go_wp2_with fail
                go_quiet ((first | (go_at_call_of 44 (Value.string a); exact Calls.quiet_of_same (A.out _)) | (go_at_call_of 44 (Value.string b); exact Calls.quiet_of_same (B.out _))))
                go_wp2
                go_ret
                exact ⟨ret_int E.out.symm, below_dn hbn.out _⟩
              · have E : Hid (L = -1) := Lib.hid (by rw [H2.out, idC_tf hna hnb])
                clear hna hnb H2 HN na nb
                go_wp2
                go_quiet (fail)
                have c1' : (wr.drewN nq).cell? ⟨g1, k, none⟩ = some (.string a) := c1
                have c2' : (wr.drewN nq).cell? ⟨g2, k, none⟩ = some (.string b) := c2
                have hbn : Hid (Below w.heap.size w (wr.drewN nq)) := Lib.hid (below_dn hb.out _)
                clear c1 c2 hb
                generalize wr.drewN nq = W at c1' c2' hbn ⊢
                go_wp2_with fail
                refine (A.out _).mono ?_
                rintro e w' ⟨rfl, rfl⟩
                go_wp2_with fail
                refine (B.out _).mono ?_
                rintro e w' ⟨rfl, rfl⟩
                go_wp2_with fail
                go_quiet ((first | (go_at_call_of 44 (Value.string a); exact Calls.quiet_of_same (A.out _)) | (go_at_call_of 44 (Value.string b); exact Calls.quiet_of_same (B.out _))))
                go_wp2
                go_ret
                exact ⟨ret_int E.out.symm, below_dn hbn.out _⟩
              · have E : Hid (L = intC a.data.toList b.data.toList) := Lib.hid (by rw [H2.out, idC_tt hna hnb])
                have NN := Lib.hid (fun wx => numbers_any a b wx la lb)
                generalize intC a.data.toList b.data.toList = ii at *
                clear hna hnb H2 HN na nb
                go_wp2
                go_quiet (fail)
                have c1' : (wr.drewN nq).cell? ⟨g1, k, none⟩ = some (.string a) := c1
                have c2' : (wr.drewN nq).cell? ⟨g2, k, none⟩ = some (.string b) := c2
                have hbn : Hid (Below w.heap.size w (wr.drewN nq)) := Lib.hid (below_dn hb.out _)
                clear c1 c2 hb
                generalize wr.drewN nq = W at c1' c2' hbn ⊢
                go_wp2_with fail
                refine (A.out _).mono ?_
                rintro e w' ⟨rfl, rfl⟩
                go_wp2_with fail
                refine (B.out _).mono ?_
                rintro e w' ⟨rfl, rfl⟩
                go_wp2_with fail
                go_quiet ((go_at_call 34; exact Calls.quiet_of_same (NN.out _)))
                go_wp2
                go_ret
                exact ⟨ret_int E.out.symm, below_dn hbn.out _⟩
          · have hge : (X.length ≤ k ∧ k < Y.length) ∨ Y.length ≤ k := by omega
            rcases hge with ⟨h1, h2⟩ | h1
            · have E : Hid (L = -1) := Lib.hid (by
                have h := hi.out
                rw [List.drop_of_length_le h1] at h
                rw [h.1]; exact lexC_left h.2.symm)
              have t1 : X.length < Y.length := by omega
              have t2 : X.length ≤ k := h1
              clear hi hlt
              go_wp2
              go_ret
              exact ⟨ret_int E.out.symm, hb.out⟩
            · have E : Hid (L = 1) := Lib.hid (by
                have h := hi.out
                rw [List.drop_of_length_le h1] at h
                rw [h.1]; exact lexC_right h.2)
              have t1 : ¬ X.length < Y.length := by omega
              clear hi hlt
              go_wp2
              go_ret
              exact ⟨ret_int E.out.symm, hb.out⟩
end Go.Proofs.Ytdinaphcglmhoaa
