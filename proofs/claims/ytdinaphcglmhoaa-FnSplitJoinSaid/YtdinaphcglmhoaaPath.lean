/-
  The walks of spec.Split, spec.path, spec.Path.
-/
import Derived.Test.YtdinaphcglmhoaaSplit
namespace Go.Proofs.Ytdinaphcglmhoaa
open Go.RowKit

theorem take_eq (s : ByteArray) (n : Nat) (l : Bs) (h : ((s.extract 0 n).toList == l) = true) : s.data.toList.take n = l := by
  rw [Lib.toList_data, extract_take] at h
  exact beq_iff_eq.1 h
theorem take_ne (s : ByteArray) (n : Nat) (l : Bs) (h : ((s.extract 0 n).toList == l) = false) : s.data.toList.take n ≠ l := by
  rw [Lib.toList_data, extract_take] at h
  intro e; rw [e] at h; simp at h
theorem isPrefixOf_take (p l : Bs) : p.isPrefixOf l = (l.take p.length == p) := by
  rw [Bool.eq_iff_iff, List.isPrefixOf_iff_prefix, beq_iff_eq]
  constructor
  · rintro ⟨t, rfl⟩; simp
  · intro h; exact ⟨l.drop p.length, by conv => lhs; lhs; rw [← h]
                                        exact List.take_append_drop _ _⟩
theorem gop_yes (s : ByteArray) (h : ((s.extract 0 9).toList == [103, 111, 112, 107, 103, 46, 105, 110, 47]) = true) : gop.isPrefixOf s.data.toList = true := by
  rw [isPrefixOf_take]; exact beq_iff_eq.2 (take_eq s 9 _ h)
theorem gop_no (s : ByteArray) (h : ((s.extract 0 9).toList == [103, 111, 112, 107, 103, 46, 105, 110, 47]) = false) : gop.isPrefixOf s.data.toList = false := by
  rw [isPrefixOf_take]; exact beq_eq_false_iff_ne.2 (take_ne s 9 _ h)
theorem gop_short (s : ByteArray) (h : s.size < 9) : gop.isPrefixOf s.data.toList = false := by
  rw [isPrefixOf_take]; refine beq_eq_false_iff_ne.2 (fun e => ?_)
  have := congrArg List.length e
  simp [gop] at this; omega

set_option maxHeartbeats 2000000 in
theorem split_any (s : ByteArray) (w : World) (hs : s.size ≤ 4294967296) :
    Calls Try.prog 16 #[.string s] w fun e w' => SplitE (splitV s.data.toList) e ∧ Below w.heap.size w w' := by
  have key : gop.isPrefixOf s.data.toList = true ∧ 9 ≤ s.size ∧ ((s.extract 0 9).toList == [103, 111, 112, 107, 103, 46, 105, 110, 47]) = true ∨
      gop.isPrefixOf s.data.toList = false ∧ (s.size < 9 ∨ 9 ≤ s.size ∧ ((s.extract 0 9).toList == [103, 111, 112, 107, 103, 46, 105, 110, 47]) = false) := by
    by_cases h9 : 9 ≤ s.size
    · rcases bool_two ((s.extract 0 9).toList == [103, 111, 112, 107, 103, 46, 105, 110, 47]) with h | h
      · exact .inl ⟨gop_yes s h, h9, h⟩
      · exact .inr ⟨gop_no s h, .inr ⟨h9, h⟩⟩
    · exact .inr ⟨gop_short s (by omega), .inl (by omega)⟩
  rcases key with ⟨hp, h9, he⟩ | ⟨hp, h9⟩
  · have G := Lib.hid (fun wx => gopkg_any s wx hs)
    have EV := Lib.hid (splitV_go hp)
    clear hp
    go_enter Try.func16, Try.ntmps16
    go_wp2_with (go_at_call 32; refine (G.out _).mono ?_; rintro e w' ⟨rfl, hb⟩)
    go_ret2
    exact ⟨by rw [EV.out]; rfl, hb⟩
  · have HP := Lib.hid hp
    clear hp
    rcases h9 with h9 | ⟨h9, he⟩
    all_goals
      go_enter Try.func16, Try.ntmps16
      go_wp2_with fail
      refine (cut_any s 47 w hs).mono ?_
      rintro e w1 ⟨g, cap, rfl, hrow, hb⟩
      obtain ⟨outs, x, hL, hx, ho⟩ := cut_open s.data.toList 47
      rw [hL] at hrow
      rw [hL]
      rw [size_len] at hx ho
      have HB1 := Lib.hid hb
      have hcell := hrow.last
      have hlen : (outs ++ [x]).length = outs.length + 1 := by simp
      rw [hlen]
      clear hlen hrow hb
      obtain ⟨p, rfl⟩ : ∃ p : ByteArray, x = p.data.toList := ⟨tx x, by simp⟩
      rw [tx_of] at hcell
      rw [size_len] at hx
      have EQ := Lib.hid (splitV_eq HP.out hL)
      clear hL
      by_cases h1 : outs.length + 1 < 2
      · have E := Lib.hid (EQ.out.trans (sv_nil (.inl h1)))
        go_wp2
        go_ret2
        exact ⟨SplitE.of E.out, HB1.out⟩
      · have H1 := Lib.hid h1
        have h1' : 1 ≤ outs.length := by omega
        clear h1
        by_cases h2 : p.size < 2
        · have E := Lib.hid (EQ.out.trans (sv_nil (.inr (.inl (by rw [size_len]; exact h2)))))
          go_wp2
          go_ret2
          exact ⟨SplitE.of E.out, HB1.out⟩
        · have h2' : 2 ≤ p.size := by omega
          have H2 : Hid (¬ p.data.toList.length < 2) := Lib.hid (by rw [size_len]; exact h2)
          have h71 : 0 < p.size := by omega
          have h72 : 1 < p.size := by omega
          clear h2
          rcases bool_two ((p[0].toNat : Int) != 118) with h3 | h3
          · have E := Lib.hid (EQ.out.trans (sv_nil (.inr (.inr (.inl (byte_isnt (h := h71) (c := 118) (by simpa using h3)))))))
            go_wp2
            go_ret2
            exact ⟨SplitE.of E.out, HB1.out⟩
          · have B0 := Lib.hid (byte_is (p := p) (h := h71) (c := 118) (by simpa using h3))
            have hd : (p.extract 1 p.size).size ≤ maxLen := by simp [maxLen]; omega
            have hpm : p.size ≤ maxLen := by unfold maxLen; omega
            obtain ⟨a, haa⟩ : ∃ a, allB (p.extract 1 p.size).data.toList false false [46] = a := ⟨_, rfl⟩
            have A := fun wx => all_any (p.extract 1 p.size) false false ⟨#[46]⟩ wx hd (by decide)
            have hcon : (⟨#[46]⟩ : ByteArray).data.toList = [46] := rfl
            rw [hcon, haa] at A
            rw [extract_drop] at haa
            have A' := Lib.hid A
            have HAA := Lib.hid haa
            clear A haa hcon hd
            cases a
            · have E := Lib.hid (EQ.out.trans (sv_nil (.inr (.inr (.inr HAA.out)))))
              go_wp2_with (go_at_call 29; refine (A'.out _).mono ?_; rintro e w' ⟨rfl, rfl⟩)
              go_ret2
              exact ⟨SplitE.of E.out, HB1.out⟩
            · obtain ⟨ib, hib⟩ : ∃ ib, inB p.data.toList 46 = ib := ⟨_, rfl⟩
              have I := fun wx => in_any p 46 wx hpm
              rw [hib] at I
              have I' := Lib.hid I
              have HIB := Lib.hid hib
              clear I hib hpm
              have EQ2 := Lib.hid (EQ.out.trans (sv_rest H1.out H2.out B0.out HAA.out))
              rcases bool_two ((p[1].toNat : Int) == 48) with h4 | h4
              · have E := Lib.hid (EQ2.out.trans (if_pos (.inl (byte_is (h := h72) (c := 48) (by simpa using h4)))))
                go_wp2_with (first | (go_at_call 29; refine (A'.out _).mono ?_; rintro e w' ⟨rfl, rfl⟩) | (go_at_call 26; refine (I'.out _).mono ?_; rintro e w' ⟨rfl, rfl⟩))
                go_ret2
                exact ⟨SplitE.of E.out, HB1.out⟩
              · rcases bool_two ((p[1].toNat : Int) == 46) with h5 | h5
                · have E := Lib.hid (EQ2.out.trans (if_pos (.inr (.inl (byte_is (h := h72) (c := 46) (by simpa using h5))))))
                  go_wp2_with (first | (go_at_call 29; refine (A'.out _).mono ?_; rintro e w' ⟨rfl, rfl⟩) | (go_at_call 26; refine (I'.out _).mono ?_; rintro e w' ⟨rfl, rfl⟩))
                  go_ret2
                  exact ⟨SplitE.of E.out, HB1.out⟩
                · rcases bool_two (p.toList == [118, 49]) with h6 | h6
                  · have E := Lib.hid (EQ2.out.trans (if_pos (.inr (.inr (.inl (by rw [Lib.toList_data] at h6; exact beq_iff_eq.1 h6))))))
                    go_wp2_with (first | (go_at_call 29; refine (A'.out _).mono ?_; rintro e w' ⟨rfl, rfl⟩) | (go_at_call 26; refine (I'.out _).mono ?_; rintro e w' ⟨rfl, rfl⟩))
                    go_ret2
                    exact ⟨SplitE.of E.out, HB1.out⟩
                  · cases ib
                    · have E := Lib.hid (EQ2.out.trans (if_neg (by
                        rintro (h' | h' | h' | h')
                        · exact byte_isnt (h := h72) (c := 48) (by simpa using h4) h'
                        · exact byte_isnt (h := h72) (c := 46) (by simpa using h5) h'
                        · rw [Lib.toList_data, h'] at h6; revert h6; decide
                        · rw [HIB.out] at h'; cases h')))
                      go_wp2_with (first | (go_at_call 29; refine (A'.out _).mono ?_; rintro e w' ⟨rfl, rfl⟩) | (go_at_call 26; refine (I'.out _).mono ?_; rintro e w' ⟨rfl, rfl⟩))
                      go_ret2
                      exact ⟨by rw [cons_tx]; exact SplitE.of E.out, HB1.out⟩
                    · have E := Lib.hid (EQ2.out.trans (if_pos (.inr (.inr (.inr HIB.out)))))
                      go_wp2_with (first | (go_at_call 29; refine (A'.out _).mono ?_; rintro e w' ⟨rfl, rfl⟩) | (go_at_call 26; refine (I'.out _).mono ?_; rintro e w' ⟨rfl, rfl⟩))
                      go_ret2
                      exact ⟨SplitE.of E.out, HB1.out⟩
end Go.Proofs.Ytdinaphcglmhoaa
