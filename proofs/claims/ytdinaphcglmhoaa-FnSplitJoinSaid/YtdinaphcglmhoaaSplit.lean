/-
  The walks of spec.gopkg, spec.Split, spec.path, spec.Path.
-/
import Derived.Test.YtdinaphcglmhoaaSplitP
import Derived.Test.YtdinaphcglmhoaaElem
namespace Go.Proofs.Ytdinaphcglmhoaa
open Go.RowKit

set_option maxHeartbeats 1000000 in
theorem gopkg_any (s : ByteArray) (w : World) (hs : s.size ≤ 4294967296) :
    Calls Try.prog 32 #[.string s] w fun e w' => SplitE (gopkgV s.data.toList) e ∧ Below w.heap.size w w' := by
  go_enter Try.func32, Try.ntmps32
  go_wp2_with fail
  refine (cut_any s 47 w hs).mono ?_
  rintro e w1 ⟨g, cap, rfl, hrow, hb⟩
  obtain ⟨outs, x, hL, hx, ho⟩ := cut_open s.data.toList 47
  rw [hL] at hrow
  rw [hL]
  rw [size_len] at hx ho
  have HL := Lib.hid hL
  have HB1 := Lib.hid hb
  have hcell := hrow.last
  clear hL hb hrow
  have hlen : (outs ++ [x]).length = outs.length + 1 := by simp
  rw [hlen]
  clear hlen
  have hxs : (tx x).size ≤ 4294967296 := by rw [tx_size]; omega
  go_wp2_with fail
  refine (cut_any (tx x) 46 w1 hxs).mono ?_
  rintro e w2 ⟨g2, cap2, rfl, hrow2, hb2⟩
  rw [tx_data] at hrow2
  rw [tx_data]
  obtain ⟨outs2, y, hP, hy, ho2⟩ := cut_open x 46
  rw [hP] at hrow2
  rw [hP]
  have HP2 := Lib.hid hP
  have HB2 := Lib.hid (below_tr HB1.out hb2)
  have hcell2 := hrow2.last
  have hcell0 : ∃ z : Bs, w2.cell? ⟨g2, 0, none⟩ = some (.string (tx z)) ∧ z.length ≤ x.length ∧ (outs2 ++ [y]).headD [] = z := by
    cases outs2 with
    | nil => exact ⟨y, hcell2, hy, rfl⟩
    | cons z r => exact ⟨z, hrow2.2 0 z (by simp), cutL_size x 46 z (by rw [hP]; simp), rfl⟩
  have hEQ := gopkgV_eq HL.out HP2.out
  have hlen : (outs2 ++ [y]).length = outs2.length + 1 := by simp
  rw [hlen]
  clear hlen hP hb2 hrow2 HB1 hcell
  obtain ⟨z, hcell0, hz, hhd⟩ := hcell0
  rw [hhd] at hEQ
  have EQ := Lib.hid hEQ
  clear hEQ hhd
  have hzs : (tx z).size ≤ maxLen := by rw [tx_size]; unfold maxLen; omega
  obtain ⟨lt, hlt⟩ : ∃ lt, letterB (tx z).data.toList = lt := ⟨_, rfl⟩
  have CL := fun wx => letter_any (tx z) wx hzs
  rw [hlt] at CL
  rw [tx_data] at hlt
  have CL' := Lib.hid CL
  have HLT := Lib.hid hlt
  clear CL hlt hzs hz
  generalize tx z = q at *
  obtain ⟨p, rfl⟩ : ∃ p : ByteArray, y = p.data.toList := ⟨tx y, by simp⟩
  rw [tx_of] at hcell2
  rw [size_len] at hy
  by_cases h2 : outs2.length + 1 < 2
  · have E := Lib.hid (EQ.out.trans (gv_two h2))
    go_wp2
    go_ret2
    exact ⟨SplitE.of E.out, HB2.out⟩
  · by_cases h3 : 2 < outs2.length + 1
    · have E := Lib.hid (EQ.out.trans (gv_zero h2 (.inl h3)))
      go_wp2
      go_ret2
      exact ⟨SplitE.of E.out, HB2.out⟩
    · have H2 := Lib.hid h2
      have H3 := Lib.hid h3
      have h4 : outs2.length ≤ 1 := by omega
      have h5 : 1 ≤ outs2.length := by omega
      clear h2 h3
      by_cases h6 : p.size < 2
      · have E := Lib.hid (EQ.out.trans (gv_zero H2.out (.inr (.inl (by rw [size_len]; exact h6)))))
        go_wp2
        go_ret2
        exact ⟨SplitE.of E.out, HB2.out⟩
      · have h7 : 2 ≤ p.size := by omega
        have h71 : 0 < p.size := by omega
        have h72 : 1 < p.size := by omega
        clear h6
        rcases bool_two ((p[0].toNat : Int) != 118) with h8 | h8
        · have E := Lib.hid (EQ.out.trans (gv_zero H2.out (.inr (.inr (.inl (byte_isnt (h := h71) (c := 118) (by simpa using h8)))))))
          go_wp2
          go_ret2
          exact ⟨SplitE.of E.out, HB2.out⟩
        · have B0 := Lib.hid (byte_is (p := p) (h := h71) (c := 118) (by simpa using h8))
          have hd : (p.extract 1 p.size).size ≤ maxLen := by simp [maxLen]; omega
          obtain ⟨d, hdd⟩ : ∃ d, digB (p.extract 1 p.size).data.toList = d := ⟨_, rfl⟩
          have C := fun wx => digits_any (p.extract 1 p.size) wx hd
          rw [hdd] at C
          rw [extract_drop] at hdd
          have C' := Lib.hid C
          have HDD := Lib.hid hdd
          clear C hdd hd
          cases d
          · have E := Lib.hid (EQ.out.trans (gv_zero H2.out (.inr (.inr (.inr (.inl HDD.out))))))
            go_wp2_with (go_at_call 44; refine (C'.out _).mono ?_; rintro e w' ⟨rfl, rfl⟩)
            go_ret2
            exact ⟨SplitE.of E.out, HB2.out⟩
          · by_cases h9 : 2 < p.size ∧ ((p[1].toNat : Int) == 48) = true
            · obtain ⟨h9, h10⟩ := h9
              have E := Lib.hid (EQ.out.trans (gv_zero H2.out (.inr (.inr (.inr (.inr (.inl ⟨by rw [size_len]; exact h9, byte_is (h := h72) (c := 48) (by simpa using h10)⟩)))))))
              go_wp2_with (go_at_call 44; refine (C'.out _).mono ?_; rintro e w' ⟨rfl, rfl⟩)
              go_ret2
              exact ⟨SplitE.of E.out, HB2.out⟩
            · have h9' : p.size ≤ 2 ∨ (2 < p.size ∧ ((p[1].toNat : Int) == 48) = false) := by
                rcases Nat.lt_or_ge 2 p.size with hh | hh
                · rcases bool_two ((p[1].toNat : Int) == 48) with hq | hq
                  · exact absurd ⟨hh, hq⟩ h9
                  · exact .inr ⟨hh, hq⟩
                · exact .inl hh
              have h11 : Hid (p.data.toList.length ≤ 2 ∨ p.data.toList[1]? ≠ some 48) := Lib.hid (by
                rcases h9' with hh | ⟨_, hh⟩
                · exact .inl (by rw [size_len]; exact hh)
                · exact .inr (byte_isnt (h := h72) (c := 48) (by simpa using hh)))
              clear h9
              by_cases h12 : 3 < outs.length + 1
              · have E := Lib.hid (EQ.out.trans (gv_zero H2.out (.inr (.inr (.inr (.inr (.inr (.inl h12))))))))
                rcases h9' with h9' | ⟨h9', h10⟩
                all_goals
                  go_wp2_with (go_at_call 44; refine (C'.out _).mono ?_; rintro e w' ⟨rfl, rfl⟩)
                  go_ret2
                  exact ⟨SplitE.of E.out, HB2.out⟩
              · cases lt
                · have E := Lib.hid (EQ.out.trans (gv_zero H2.out (.inr (.inr (.inr (.inr (.inr (.inr HLT.out))))))))
                  rcases h9' with h9' | ⟨h9', h10⟩
                  all_goals
                    go_wp2_with (first | (go_at_call 44; refine (C'.out _).mono ?_; rintro e w' ⟨rfl, rfl⟩) | (go_at_call 45; refine (CL'.out _).mono ?_; rintro e w' ⟨rfl, rfl⟩))
                    go_ret2
                    exact ⟨SplitE.of E.out, HB2.out⟩
                · have E := Lib.hid (EQ.out.trans (gv_one H2.out H3.out (by rw [size_len]; omega) B0.out HDD.out h11.out h12 HLT.out))
                  rcases h9' with h9' | ⟨h9', h10⟩
                  all_goals
                    go_wp2_with (first | (go_at_call 44; refine (C'.out _).mono ?_; rintro e w' ⟨rfl, rfl⟩) | (go_at_call 45; refine (CL'.out _).mono ?_; rintro e w' ⟨rfl, rfl⟩))
                    go_ret2
                    exact ⟨by rw [cons_tx]; exact SplitE.of E.out, HB2.out⟩
end Go.Proofs.Ytdinaphcglmhoaa
