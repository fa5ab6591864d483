/-
  semver.parse, with the draws. PRINTED by gen_d.py.
-/
import Derived.Test.YtdinaphcglmhoaaParse
import Derived.Test.YtdinaphcglmhoaaIntD
import Derived.Test.YtdinaphcglmhoaaPreD
namespace Go.Proofs.Ytdinaphcglmhoaa
open Go.RowKit
set_option linter.unusedVariables false
set_option linter.unusedSimpArgs false

/-- The block of the named result: six texts, in a block of the call's own. -/
structure PSD (w0 w : World) (t : TypeId) (a0 a1 a2 a3 a4 a5 : ByteArray) : Prop where
  below : BelowD w0.heap.size w0 w
  blk : w.heap[w0.heap.size]? = some (.cells #[.string a0, .string a1, .string a2, .string a3, .string a4, .string a5] t (0, 0))

section
variable {w0 w w' : World} {t : TypeId} {a0 a1 a2 a3 a4 a5 : ByteArray}
theorem PSD.lt (h : PSD w0 w t a0 a1 a2 a3 a4 a5) : w0.heap.size < w.heap.size := by
  rcases Nat.lt_or_ge w0.heap.size w.heap.size with hlt | hge
  · exact hlt
  · have := h.blk; rw [Array.getElem?_eq_none hge] at this; cases this
theorem PSD.cell (h : PSD w0 w t a0 a1 a2 a3 a4 a5) (i : Nat) : w.cell? ⟨w0.heap.size, i, none⟩ = (#[.string a0, .string a1, .string a2, .string a3, .string a4, .string a5] : Array Value)[i]? := cell_of_row w _ i _ t (0, 0) h.blk
theorem PSD.cells (h : PSD w0 w t a0 a1 a2 a3 a4 a5) : w.cell? ⟨w0.heap.size, 0, none⟩ = some (.string a0) ∧ w.cell? ⟨w0.heap.size, 1, none⟩ = some (.string a1) ∧ w.cell? ⟨w0.heap.size, 2, none⟩ = some (.string a2) ∧
    w.cell? ⟨w0.heap.size, 3, none⟩ = some (.string a3) ∧ w.cell? ⟨w0.heap.size, 4, none⟩ = some (.string a4) ∧ w.cell? ⟨w0.heap.size, 5, none⟩ = some (.string a5) :=
  ⟨h.cell 0, h.cell 1, h.cell 2, h.cell 3, h.cell 4, h.cell 5⟩
theorem PSD.free (h : PSD w0 w t a0 a1 a2 a3 a4 a5) (i : Nat) : w.frozen? ⟨w0.heap.size, i, none⟩ = false := by
  have := h.blk
  simp [World.frozen?, this]
theorem PSD.call (h : PSD w0 w t a0 a1 a2 a3 a4 a5) (hb : BelowD w.heap.size w w') : PSD w0 w' t a0 a1 a2 a3 a4 a5 :=
  ⟨belowD_tr h.below hb, (hb.block _ h.lt).trans h.blk⟩
theorem PSD.set_ (h : PSD w0 w t a0 a1 a2 a3 a4 a5) (i : Nat) (v : Value) : (w.setCell ⟨w0.heap.size, i, none⟩ v).heap[w0.heap.size]? = some (.cells ((#[.string a0, .string a1, .string a2, .string a3, .string a4, .string a5] : Array Value).setIfInBounds i v) t (0, 0)) := by
  have := h.blk
  simp [World.setCell, Array.getElem?_modify, this]
theorem PSD.set0 (h : PSD w0 w t a0 a1 a2 a3 a4 a5) (b : ByteArray) : PSD w0 (w.setCell ⟨w0.heap.size, 0, none⟩ (.string b)) t b a1 a2 a3 a4 a5 := ⟨h.below.setCell (Nat.le_refl _) _, h.set_ 0 _⟩
theorem PSD.set1 (h : PSD w0 w t a0 a1 a2 a3 a4 a5) (b : ByteArray) : PSD w0 (w.setCell ⟨w0.heap.size, 1, none⟩ (.string b)) t a0 b a2 a3 a4 a5 := ⟨h.below.setCell (Nat.le_refl _) _, h.set_ 1 _⟩
theorem PSD.set2 (h : PSD w0 w t a0 a1 a2 a3 a4 a5) (b : ByteArray) : PSD w0 (w.setCell ⟨w0.heap.size, 2, none⟩ (.string b)) t a0 a1 b a3 a4 a5 := ⟨h.below.setCell (Nat.le_refl _) _, h.set_ 2 _⟩
theorem PSD.set3 (h : PSD w0 w t a0 a1 a2 a3 a4 a5) (b : ByteArray) : PSD w0 (w.setCell ⟨w0.heap.size, 3, none⟩ (.string b)) t a0 a1 a2 b a4 a5 := ⟨h.below.setCell (Nat.le_refl _) _, h.set_ 3 _⟩
theorem PSD.set4 (h : PSD w0 w t a0 a1 a2 a3 a4 a5) (b : ByteArray) : PSD w0 (w.setCell ⟨w0.heap.size, 4, none⟩ (.string b)) t a0 a1 a2 a3 b a5 := ⟨h.below.setCell (Nat.le_refl _) _, h.set_ 4 _⟩
theorem PSD.set5 (h : PSD w0 w t a0 a1 a2 a3 a4 a5) (b : ByteArray) : PSD w0 (w.setCell ⟨w0.heap.size, 5, none⟩ (.string b)) t a0 a1 a2 a3 a4 b := ⟨h.below.setCell (Nat.le_refl _) _, h.set_ 5 _⟩
theorem PSD.new (w : World) (t : TypeId) (a0 a1 a2 a3 a4 a5 : ByteArray) : PSD w (w.alloc (.cells #[.string a0, .string a1, .string a2, .string a3, .string a4, .string a5] t)) t a0 a1 a2 a3 a4 a5 :=
  ⟨belowD_al (BelowD.refl _ _) _, heap_alloc_new w _⟩
end


set_option maxHeartbeats 4000000 in
theorem parse_anyD (s : ByteArray) (w : World) (hs : s.size ≤ 4294967296) :
    Calls Try.prog 62 #[.string s] w fun e w' => ParE (parseV s.data.toList) e ∧ BelowD w.heap.size w w' := by
  have P0 := Lib.hid (PSD.new w 68 ⟨#[]⟩ ⟨#[]⟩ ⟨#[]⟩ ⟨#[]⟩ ⟨#[]⟩ ⟨#[]⟩)
  cases hl : s.data.toList with
  | nil =>
    have he : s.toList.isEmpty = true := by rw [Lib.toList_data, hl]; rfl
    clear hl
    go_enter Try.func62, Try.ntmps62
    go_wp2
    refine bodyPost_ret (v := failVal ⟨#[]⟩ ⟨#[]⟩ ⟨#[]⟩ ⟨#[]⟩ ⟨#[]⟩ ⟨#[]⟩) (by simp [failVal, results, Try.results62, go_sem]) rfl ⟨ParE.no rfl _ _ _ _ _ _, P0.out.below⟩
  | cons c r =>
    obtain ⟨h0, he, hv, hx⟩ := str_cons hl
    by_cases hc : c = 118
    · have e1 : ((s[0].toNat : Int) != 118) = false := by rw [hv h0, hc]; rfl
      have EP : Hid (parseV (c :: r) = parse1 r) := Lib.hid (by unfold parseV; rw [if_pos (by simp [hc])]; rfl)
      have hx1 : (s.extract 1 s.size).size ≤ 4294967296 := by simp; omega
      have HX := Lib.hid hx
      clear hv hx hl hc
      go_enter Try.func62, Try.ntmps62
      cases hI0 : spanI (r) with
      | none =>
        have E : Hid (parseV (c :: r) = none) := Lib.hid (by rw [EP.out]; unfold parse1; rw [hI0])
        go_wp2_with fail
        refine (parseInt_anyD _ _ hx1).mono ?_
        rintro e wn0 ⟨hE, hb⟩
        unfold OptE at hE
        rw [HX.out, hI0] at hE
        subst hE
        have Q := P0.out.call hb
        obtain ⟨c0, c1, c2, c3, c4, c5⟩ := Q.cells
        have hf := Q.free
        have PF := Lib.hid (Q.set0 ⟨#[]⟩)
        clear hb Q
        clear hI0
        go_wp2
        refine bodyPost_ret (v := failVal ⟨#[]⟩ ⟨#[]⟩ ⟨#[]⟩ ⟨#[]⟩ ⟨#[]⟩ ⟨#[]⟩) (by simp [failVal, results, Try.results62, go_sem, c0, c1, c2, c3, c4, c5]) rfl ⟨ParE.no E.out _ _ _ _ _ _, PF.out.below⟩
      | some q =>
        obtain ⟨M, b0⟩ := q
        have HI0 := Lib.hid hI0
        have hlen := spanI_len hI0
        go_wp2_with fail
        refine (parseInt_anyD _ _ hx1).mono ?_
        rintro e wm0 ⟨hE, hb⟩
        unfold OptE at hE
        rw [HX.out, hI0] at hE
        obtain ⟨v0, hv0d⟩ : ∃ v : ByteArray, v = tx b0 := ⟨_, rfl⟩
        have hE' : e = .returned (.tuple #[.string (tx M), .string v0, .bool true]) := by rw [hv0d]; exact hE
        clear hE
        subst hE'
        have hvd : v0.data.toList = b0 := by rw [hv0d, tx_data]
        have hvs : v0.size ≤ 4294967296 := by rw [hv0d, tx_size]; have := arg_len hx1 HX.out; omega
        clear hv0d
        have Q := P0.out.call hb
        obtain ⟨c0, c1, c2, c3, c4, c5⟩ := Q.cells
        have hf := Q.free
        have P1 := Lib.hid (Q.set0 (tx M))
        clear hb Q
        clear hI0
        cases b0 with
        | nil =>
          have he2 : v0.toList.isEmpty = true := by rw [Lib.toList_data, hvd]; rfl
          have E : Hid (parseV (c :: r) = some ⟨M, [48], [48], [46, 48, 46, 48], [], []⟩) := Lib.hid (by rw [EP.out]; unfold parse1; rw [HI0.out]; rfl)
          have PE := Lib.hid (((P1.out.set1 ⟨#[48]⟩).set2 ⟨#[48]⟩).set3 ⟨#[46, 48, 46, 48]⟩)
          clear hvd
          go_wp2
          refine bodyPost_ret (v := svVal ⟨M, [48], [48], [46, 48, 46, 48], [], []⟩) (by simp [svVal, results, Try.results62, go_sem, c0, c1, c2, c3, c4, c5, tx0, tx00, tx000, txn]) rfl ⟨ParE.yes E.out, PE.out.below⟩
        | cons d r0 =>
          obtain ⟨h00, he0, hv0, hx0⟩ := str_cons hvd
          by_cases hd : d = 46
          · have e2 : ((v0[0].toNat : Int) != 46) = false := by rw [hv0 h00, hd]; rfl
            have EP2 : Hid (parseV (c :: r) = parse2 M r0) := Lib.hid (by rw [EP.out]; unfold parse1; rw [HI0.out]; simp [hd])
            have hxs0 : (v0.extract 1 v0.size).size ≤ 4294967296 := by simp; omega
            have HX0 := Lib.hid hx0
            clear hv0 hx0 hvd hd
            cases hI1 : spanI (r0) with
            | none =>
              have E : Hid (parseV (c :: r) = none) := Lib.hid (by rw [EP2.out]; unfold parse2; rw [hI1])
              go_wp2_with fail
              refine (parseInt_anyD _ _ hxs0).mono ?_
              rintro e wn1 ⟨hE, hb⟩
              unfold OptE at hE
              rw [HX0.out, hI1] at hE
              subst hE
              have Q := P1.out.call hb
              obtain ⟨c0, c1, c2, c3, c4, c5⟩ := Q.cells
              have hf := Q.free
              have PF := Lib.hid (Q.set1 ⟨#[]⟩)
              clear hb Q
              clear hI1
              go_wp2
              refine bodyPost_ret (v := failVal (tx M) ⟨#[]⟩ ⟨#[]⟩ ⟨#[]⟩ ⟨#[]⟩ ⟨#[]⟩) (by simp [failVal, results, Try.results62, go_sem, c0, c1, c2, c3, c4, c5]) rfl ⟨ParE.no E.out _ _ _ _ _ _, PF.out.below⟩
            | some q =>
              obtain ⟨m, b1⟩ := q
              have HI1 := Lib.hid hI1
              have hlen := spanI_len hI1
              go_wp2_with fail
              refine (parseInt_anyD _ _ hxs0).mono ?_
              rintro e wm1 ⟨hE, hb⟩
              unfold OptE at hE
              rw [HX0.out, hI1] at hE
              obtain ⟨v1, hv1d⟩ : ∃ v : ByteArray, v = tx b1 := ⟨_, rfl⟩
              have hE' : e = .returned (.tuple #[.string (tx m), .string v1, .bool true]) := by rw [hv1d]; exact hE
              clear hE
              subst hE'
              have hvd : v1.data.toList = b1 := by rw [hv1d, tx_data]
              have hvs : v1.size ≤ 4294967296 := by rw [hv1d, tx_size]; have := arg_len hxs0 HX0.out; omega
              clear hv1d
              have Q := P1.out.call hb
              obtain ⟨c0, c1, c2, c3, c4, c5⟩ := Q.cells
              have hf := Q.free
              have P2 := Lib.hid (Q.set1 (tx m))
              clear hb Q
              clear hI1
              cases b1 with
              | nil =>
                have he2 : v1.toList.isEmpty = true := by rw [Lib.toList_data, hvd]; rfl
                have E : Hid (parseV (c :: r) = some ⟨M, m, [48], [46, 48], [], []⟩) := Lib.hid (by rw [EP2.out]; unfold parse2; rw [HI1.out]; rfl)
                have PE := Lib.hid ((P2.out.set2 ⟨#[48]⟩).set3 ⟨#[46, 48]⟩)
                clear hvd
                go_wp2
                refine bodyPost_ret (v := svVal ⟨M, m, [48], [46, 48], [], []⟩) (by simp [svVal, results, Try.results62, go_sem, c0, c1, c2, c3, c4, c5, tx0, tx00, tx000, txn]) rfl ⟨ParE.yes E.out, PE.out.below⟩
              | cons d r1 =>
                obtain ⟨h10, he1, hv1, hx1⟩ := str_cons hvd
                by_cases hd : d = 46
                · have e3 : ((v1[0].toNat : Int) != 46) = false := by rw [hv1 h10, hd]; rfl
                  have EP3 : Hid (parseV (c :: r) = parse3 M m r1) := Lib.hid (by rw [EP2.out]; unfold parse2; rw [HI1.out]; simp [hd])
                  have hxs1 : (v1.extract 1 v1.size).size ≤ 4294967296 := by simp; omega
                  have HX1 := Lib.hid hx1
                  clear hv1 hx1 hvd hd
                  cases hI2 : spanI (r1) with
                  | none =>
                    have E : Hid (parseV (c :: r) = none) := Lib.hid (by rw [EP3.out]; unfold parse3; rw [hI2])
                    go_wp2_with fail
                    refine (parseInt_anyD _ _ hxs1).mono ?_
                    rintro e wn2 ⟨hE, hb⟩
                    unfold OptE at hE
                    rw [HX1.out, hI2] at hE
                    subst hE
                    have Q := P2.out.call hb
                    obtain ⟨c0, c1, c2, c3, c4, c5⟩ := Q.cells
                    have hf := Q.free
                    have PF := Lib.hid (Q.set2 ⟨#[]⟩)
                    clear hb Q
                    clear hI2
                    go_wp2
                    refine bodyPost_ret (v := failVal (tx M) (tx m) ⟨#[]⟩ ⟨#[]⟩ ⟨#[]⟩ ⟨#[]⟩) (by simp [failVal, results, Try.results62, go_sem, c0, c1, c2, c3, c4, c5]) rfl ⟨ParE.no E.out _ _ _ _ _ _, PF.out.below⟩
                  | some q =>
                    obtain ⟨p, b2⟩ := q
                    have HI2 := Lib.hid hI2
                    have hlen := spanI_len hI2
                    go_wp2_with fail
                    refine (parseInt_anyD _ _ hxs1).mono ?_
                    rintro e wm2 ⟨hE, hb⟩
                    unfold OptE at hE
                    rw [HX1.out, hI2] at hE
                    obtain ⟨v2, hv2d⟩ : ∃ v : ByteArray, v = tx b2 := ⟨_, rfl⟩
                    have hE' : e = .returned (.tuple #[.string (tx p), .string v2, .bool true]) := by rw [hv2d]; exact hE
                    clear hE
                    subst hE'
                    have hvd : v2.data.toList = b2 := by rw [hv2d, tx_data]
                    have hvs : v2.size ≤ 4294967296 := by rw [hv2d, tx_size]; have := arg_len hxs1 HX1.out; omega
                    clear hv2d
                    have Q := P2.out.call hb
                    obtain ⟨c0, c1, c2, c3, c4, c5⟩ := Q.cells
                    have hf := Q.free
                    have P3 := Lib.hid (Q.set2 (tx p))
                    clear hb Q
                    clear hI2
                    have EP5 : Hid (parseV (c :: r) = tailV M m p v2.data.toList) := Lib.hid (by rw [EP3.out]; unfold parse3; rw [HI2.out, hvd])
                    clear hvd
                    have hvsA : v2.size ≤ 4294967296 := hvs
                    by_cases hd0 : v2.data.toList[0]? = some 45
                    · have hpz : 0 < v2.size := by
                        have := (List.getElem?_eq_some_iff.1 hd0).1
                        simpa using this
                      have h45 : v2[0] = 45 := by have := byte_at' v2 0 hpz; rw [hd0] at this; injection this with this; exact this.symm
                      have e45 : ((v2[0].toNat : Int) == 45) = true := by rw [h45]; rfl
                      cases hP : spanPre v2.data.toList with
                      | none =>
                        have E : Hid (parseV (c :: r) = none) := Lib.hid (by
                          rw [EP5.out]; unfold tailV preV; rw [if_pos hd0, hP])
                        clear hd0
                        go_wp2_with fail
                        refine (parsePre_anyD _ _ hvs hpz h45).mono ?_
                        rintro e wp ⟨hE, hb⟩
                        unfold OptE at hE
                        rw [hP] at hE
                        subst hE
                        have Q := P3.out.call hb
                        obtain ⟨c0, c1, c2, c3, c4, c5⟩ := Q.cells
                        have hf := Q.free
                        have PF := Lib.hid (Q.set4 ⟨#[]⟩)
                        clear hb Q hP h45
                        go_wp2
                        refine bodyPost_ret (v := failVal (tx M) (tx m) (tx p) ⟨#[]⟩ ⟨#[]⟩ ⟨#[]⟩) (by simp [failVal, results, Try.results62, go_sem, c0, c1, c2, c3, c4, c5]) rfl ⟨ParE.no E.out _ _ _ _ _ _, PF.out.below⟩
                      | some q =>
                        obtain ⟨pr, b3⟩ := q
                        have HPRE : Hid (preV v2.data.toList = some (pr, b3)) := Lib.hid (by unfold preV; rw [if_pos hd0, hP])
                        clear hd0
                        go_wp2_with fail
                        refine (parsePre_anyD _ _ hvs hpz h45).mono ?_
                        rintro e wp ⟨hE, hb⟩
                        unfold OptE at hE
                        rw [hP] at hE
                        obtain ⟨v3, hv3d⟩ : ∃ v : ByteArray, v = tx b3 := ⟨_, rfl⟩
                        have hE' : e = .returned (.tuple #[.string (tx pr), .string v3, .bool true]) := by rw [hv3d]; exact hE
                        clear hE
                        subst hE'
                        have hvd3 : v3.data.toList = b3 := by rw [hv3d, tx_data]
                        have hvsB : v3.size ≤ 4294967296 := by
                          rw [hv3d, tx_size]
                          have h1 := spanPre_len hP
                          rw [size_len] at h1
                          have h2 : 1 ≤ pr.length := by
                            rw [spanPre_eq] at hP
                            split at hP
                            · injection hP with hP; injection hP with h3 _; rw [← h3]; simp
                            · cases hP
                          omega
                        clear hv3d
                        subst hvd3
                        have Q := P3.out.call hb
                        obtain ⟨c0, c1, c2, c3, c4, c5⟩ := Q.cells
                        have hf := Q.free
                        have P4 := Lib.hid (Q.set4 (tx pr))
                        clear hb Q hP h45
                        cases hg : v3.data.toList with
                        | nil =>
                          have heB : v3.toList.isEmpty = true := by rw [Lib.toList_data, hg]; rfl
                          have hzB : v3.size ≤ 0 := by rw [← size_len, hg]; exact Nat.le_refl 0
                          have E : Hid (parseV (c :: r) = some ⟨M, m, p, [], pr, []⟩) := Lib.hid (by rw [EP5.out]; unfold tailV; rw [HPRE.out]; show (match bldV v3.data.toList with | none => none | some r => if r.2 = [] then some _ else none) = _; rw [hg]; rfl)
                          clear hg
                          go_wp2
                          refine bodyPost_ret (v := svVal ⟨M, m, p, [], pr, []⟩) (by simp [svVal, results, Try.results62, go_sem, c0, c1, c2, c3, c4, c5, tx0, tx00, tx000, txn]) rfl ⟨ParE.yes E.out, P4.out.below⟩
                        | cons d4 r4 =>
                          obtain ⟨hpB, heB, hvB, hxB⟩ := str_cons hg
                          by_cases hd : d4 = 43
                          · have h43 : v3[0] = 43 := by rw [hvB hpB, hd]
                            have e43 : ((v3[0].toNat : Int) == 43) = true := by rw [h43]; rfl
                            have e43n : (v3[0].toNat : Int) ≤ 43 := by rw [h43]; decide
                            cases hB : spanBuild v3.data.toList with
                            | none =>
                              have E : Hid (parseV (c :: r) = none) := Lib.hid (by
                                rw [EP5.out]; unfold tailV; rw [HPRE.out]
                                show (match bldV v3.data.toList with | none => none | some r => if r.2 = [] then some _ else none) = _
                                unfold bldV; rw [if_pos (by rw [hg, hd]; rfl), hB])
                              clear hvB hxB hd hg
                              go_wp2_with fail
                              refine (parseBuild_anyD _ _ hvsB hpB h43).mono ?_
                              rintro e wq ⟨hE, hb⟩
                              unfold OptE at hE
                              rw [hB] at hE
                              subst hE
                              have Q := P4.out.call hb
                              obtain ⟨c0, c1, c2, c3, c4, c5⟩ := Q.cells
                              have hf := Q.free
                              have PF := Lib.hid (Q.set5 ⟨#[]⟩)
                              clear hb Q hB h43
                              go_wp2
                              refine bodyPost_ret (v := failVal (tx M) (tx m) (tx p) ⟨#[]⟩ (tx pr) ⟨#[]⟩) (by simp [failVal, results, Try.results62, go_sem, c0, c1, c2, c3, c4, c5]) rfl ⟨ParE.no E.out _ _ _ _ _ _, PF.out.below⟩
                            | some q =>
                              obtain ⟨bd, rest⟩ := q
                              have hrest : rest = [] ∧ bd = v3.data.toList := by
                                unfold spanBuild at hB
                                split at hB
                                · injection hB with hB; injection hB with h1 h2; exact ⟨h2.symm, h1.symm⟩
                                · cases hB
                              obtain ⟨rfl, hbd⟩ := hrest
                              have E : Hid (parseV (c :: r) = some ⟨M, m, p, [], pr, bd⟩) := Lib.hid (by
                                rw [EP5.out]; unfold tailV; rw [HPRE.out]
                                show (match bldV v3.data.toList with | none => none | some r => if r.2 = [] then some _ else none) = _
                                unfold bldV; rw [if_pos (by rw [hg, hd]; rfl), hB]; rfl)
                              clear hvB hxB hd hg hbd
                              go_wp2_with fail
                              refine (parseBuild_anyD _ _ hvsB hpB h43).mono ?_
                              rintro e wq ⟨hE, hb⟩
                              unfold OptE at hE
                              rw [hB] at hE
                              have hE' : e = .returned (.tuple #[.string (tx bd), .string ⟨#[]⟩, .bool true]) := hE
                              clear hE
                              subst hE'
                              have Q := P4.out.call hb
                              obtain ⟨c0, c1, c2, c3, c4, c5⟩ := Q.cells
                              have hf := Q.free
                              have PE := Lib.hid (Q.set5 (tx bd))
                              clear hb Q hB h43
                              go_wp2
                              refine bodyPost_ret (v := svVal ⟨M, m, p, [], pr, bd⟩) (by simp [svVal, results, Try.results62, go_sem, c0, c1, c2, c3, c4, c5, tx0, tx00, tx000, txn]) rfl ⟨ParE.yes E.out, PE.out.below⟩
                          · have e43 : ((v3[0].toNat : Int) == 43) = false := by
                              rw [hvB hpB]; simp; intro h; exact hd (UInt8.toNat_inj.1 (by show d4.toNat = (43 : UInt8).toNat; simp; omega))
                            have E : Hid (parseV (c :: r) = none) := Lib.hid (by
                              rw [EP5.out]; unfold tailV; rw [HPRE.out]
                              show (match bldV v3.data.toList with | none => none | some r => if r.2 = [] then some _ else none) = _
                              unfold bldV; rw [if_neg (by rw [hg]; simpa using hd)]
                              show (if v3.data.toList = [] then _ else none) = _
                              rw [if_neg (by rw [hg]; simp)])
                            clear hvB hxB hd hg
                            go_wp2
                            refine bodyPost_ret (v := failVal (tx M) (tx m) (tx p) ⟨#[]⟩ (tx pr) ⟨#[]⟩) (by simp [failVal, results, Try.results62, go_sem, c0, c1, c2, c3, c4, c5]) rfl ⟨ParE.no E.out _ _ _ _ _ _, P4.out.below⟩
                    · have HPRE : Hid (preV v2.data.toList = some ([], v2.data.toList)) := Lib.hid (by unfold preV; rw [if_neg hd0])
                      have h45 : 0 < v2.size → ((v2[0]!.toNat : Int) == 45) = false := fun h => by
                        simp; intro h'; apply hd0
                        have := byte_at' v2 0 h
                        rw [getElem!_pos v2 0 h] at h'
                        rw [this]; congr 1; exact UInt8.toNat_inj.1 (by show v2[0].toNat = (45 : UInt8).toNat; simp; omega)
                      have N45 : Hid (∀ h : 0 < v2.size, ((v2[0].toNat : Int) == 45) = false) := Lib.hid (fun h => by
                        have := h45 h; rw [getElem!_pos v2 0 h] at this; exact this)
                      clear h45 hd0
                      by_cases hne : 0 < v2.size
                      · have e45 := N45.out hne
                        cases hg : v2.data.toList with
                        | nil =>
                          exfalso
                          rw [← size_len, hg] at hne
                          exact Nat.lt_irrefl 0 hne
                        | cons d4 r4 =>
                          obtain ⟨hpA, heA, hvA, hxA⟩ := str_cons hg
                          by_cases hd : d4 = 43
                          · have h43 : v2[0] = 43 := by rw [hvA hpA, hd]
                            have e43 : ((v2[0].toNat : Int) == 43) = true := by rw [h43]; rfl
                            have e43n : (v2[0].toNat : Int) ≤ 43 := by rw [h43]; decide
                            cases hB : spanBuild v2.data.toList with
                            | none =>
                              have E : Hid (parseV (c :: r) = none) := Lib.hid (by
                                rw [EP5.out]; unfold tailV; rw [HPRE.out]
                                show (match bldV v2.data.toList with | none => none | some r => if r.2 = [] then some _ else none) = _
                                unfold bldV; rw [if_pos (by rw [hg, hd]; rfl), hB])
                              clear hvA hxA hd hg
                              go_wp2_with fail
                              refine (parseBuild_anyD _ _ hvsA hpA h43).mono ?_
                              rintro e wq ⟨hE, hb⟩
                              unfold OptE at hE
                              rw [hB] at hE
                              subst hE
                              have Q := P3.out.call hb
                              obtain ⟨c0, c1, c2, c3, c4, c5⟩ := Q.cells
                              have hf := Q.free
                              have PF := Lib.hid (Q.set5 ⟨#[]⟩)
                              clear hb Q hB h43
                              go_wp2
                              refine bodyPost_ret (v := failVal (tx M) (tx m) (tx p) ⟨#[]⟩ ⟨#[]⟩ ⟨#[]⟩) (by simp [failVal, results, Try.results62, go_sem, c0, c1, c2, c3, c4, c5]) rfl ⟨ParE.no E.out _ _ _ _ _ _, PF.out.below⟩
                            | some q =>
                              obtain ⟨bd, rest⟩ := q
                              have hrest : rest = [] ∧ bd = v2.data.toList := by
                                unfold spanBuild at hB
                                split at hB
                                · injection hB with hB; injection hB with h1 h2; exact ⟨h2.symm, h1.symm⟩
                                · cases hB
                              obtain ⟨rfl, hbd⟩ := hrest
                              have E : Hid (parseV (c :: r) = some ⟨M, m, p, [], [], bd⟩) := Lib.hid (by
                                rw [EP5.out]; unfold tailV; rw [HPRE.out]
                                show (match bldV v2.data.toList with | none => none | some r => if r.2 = [] then some _ else none) = _
                                unfold bldV; rw [if_pos (by rw [hg, hd]; rfl), hB]; rfl)
                              clear hvA hxA hd hg hbd
                              go_wp2_with fail
                              refine (parseBuild_anyD _ _ hvsA hpA h43).mono ?_
                              rintro e wq ⟨hE, hb⟩
                              unfold OptE at hE
                              rw [hB] at hE
                              have hE' : e = .returned (.tuple #[.string (tx bd), .string ⟨#[]⟩, .bool true]) := hE
                              clear hE
                              subst hE'
                              have Q := P3.out.call hb
                              obtain ⟨c0, c1, c2, c3, c4, c5⟩ := Q.cells
                              have hf := Q.free
                              have PE := Lib.hid (Q.set5 (tx bd))
                              clear hb Q hB h43
                              go_wp2
                              refine bodyPost_ret (v := svVal ⟨M, m, p, [], [], bd⟩) (by simp [svVal, results, Try.results62, go_sem, c0, c1, c2, c3, c4, c5, tx0, tx00, tx000, txn]) rfl ⟨ParE.yes E.out, PE.out.below⟩
                          · have e43 : ((v2[0].toNat : Int) == 43) = false := by
                              rw [hvA hpA]; simp; intro h; exact hd (UInt8.toNat_inj.1 (by show d4.toNat = (43 : UInt8).toNat; simp; omega))
                            have E : Hid (parseV (c :: r) = none) := Lib.hid (by
                              rw [EP5.out]; unfold tailV; rw [HPRE.out]
                              show (match bldV v2.data.toList with | none => none | some r => if r.2 = [] then some _ else none) = _
                              unfold bldV; rw [if_neg (by rw [hg]; simpa using hd)]
                              show (if v2.data.toList = [] then _ else none) = _
                              rw [if_neg (by rw [hg]; simp)])
                            clear hvA hxA hd hg
                            go_wp2
                            refine bodyPost_ret (v := failVal (tx M) (tx m) (tx p) ⟨#[]⟩ ⟨#[]⟩ ⟨#[]⟩) (by simp [failVal, results, Try.results62, go_sem, c0, c1, c2, c3, c4, c5]) rfl ⟨ParE.no E.out _ _ _ _ _ _, P3.out.below⟩
                      · have hze : v2.size ≤ 0 := by omega
                        have hg : v2.data.toList = [] := List.eq_nil_of_length_eq_zero (by rw [size_len]; omega)
                        have heA : v2.toList.isEmpty = true := by rw [Lib.toList_data, hg]; rfl
                        have E : Hid (parseV (c :: r) = some ⟨M, m, p, [], [], []⟩) := Lib.hid (by rw [EP5.out]; unfold tailV; rw [HPRE.out]; show (match bldV v2.data.toList with | none => none | some r => if r.2 = [] then some _ else none) = _; rw [hg]; rfl)
                        clear hg hne
                        go_wp2
                        refine bodyPost_ret (v := svVal ⟨M, m, p, [], [], []⟩) (by simp [svVal, results, Try.results62, go_sem, c0, c1, c2, c3, c4, c5, tx0, tx00, tx000, txn]) rfl ⟨ParE.yes E.out, P3.out.below⟩
                · have e3 : ((v1[0].toNat : Int) != 46) = true := by
                    rw [hv1 h10]; simp; intro h; exact hd (UInt8.toNat_inj.1 (by show d.toNat = (46 : UInt8).toNat; simp; omega))
                  have E : Hid (parseV (c :: r) = none) := Lib.hid (by rw [EP2.out]; unfold parse2; rw [HI1.out]; simp [hd])
                  clear hv1 hx1 hvd hd
                  go_wp2
                  refine bodyPost_ret (v := failVal (tx M) (tx m) ⟨#[]⟩ ⟨#[]⟩ ⟨#[]⟩ ⟨#[]⟩) (by simp [failVal, results, Try.results62, go_sem, c0, c1, c2, c3, c4, c5]) rfl ⟨ParE.no E.out _ _ _ _ _ _, P2.out.below⟩
          · have e2 : ((v0[0].toNat : Int) != 46) = true := by
              rw [hv0 h00]; simp; intro h; exact hd (UInt8.toNat_inj.1 (by show d.toNat = (46 : UInt8).toNat; simp; omega))
            have E : Hid (parseV (c :: r) = none) := Lib.hid (by rw [EP.out]; unfold parse1; rw [HI0.out]; simp [hd])
            clear hv0 hx0 hvd hd
            go_wp2
            refine bodyPost_ret (v := failVal (tx M) ⟨#[]⟩ ⟨#[]⟩ ⟨#[]⟩ ⟨#[]⟩ ⟨#[]⟩) (by simp [failVal, results, Try.results62, go_sem, c0, c1, c2, c3, c4, c5]) rfl ⟨ParE.no E.out _ _ _ _ _ _, P1.out.below⟩
    · have e1 : ((s[0].toNat : Int) != 118) = true := by
        rw [hv h0]; simp; intro h; exact hc (UInt8.toNat_inj.1 (by show c.toNat = (118 : UInt8).toNat; simp; omega))
      have E : Hid (parseV (c :: r) = none) := Lib.hid (by unfold parseV; rw [if_neg (by simpa using hc)])
      clear hv hx hl hc
      go_enter Try.func62, Try.ntmps62
      go_wp2
      refine bodyPost_ret (v := failVal ⟨#[]⟩ ⟨#[]⟩ ⟨#[]⟩ ⟨#[]⟩ ⟨#[]⟩ ⟨#[]⟩) (by simp [failVal, results, Try.results62, go_sem]) rfl ⟨ParE.no E.out _ _ _ _ _ _, P0.out.below⟩

end Go.Proofs.Ytdinaphcglmhoaa
