/-
  The walks of module.SplitPathVersion and module.splitGopkgIn.
-/
import Derived.Test.YtdinaphcglmhoaaSpvP
import Derived.Test.YtdinaphcglmhoaaStr
import Derived.Deep.QuietTactic
import Derived.BigQuiet
namespace Go.Proofs.Ytdinaphcglmhoaa
open Go.RowKit
set_option linter.unusedVariables false

theorem pre9 (s : ByteArray) : preB (⟨#[103, 111, 112, 107, 103, 46, 105, 110, 47]⟩ : ByteArray).data.toList s.data.toList = gop.isPrefixOf s.data.toList := by
  unfold preB
  rw [Bool.eq_iff_iff, List.isPrefixOf_iff_prefix, Bool.and_eq_true, decide_eq_true_iff, beq_iff_eq, List.prefix_iff_eq_take]
  constructor
  · rintro ⟨_, h⟩; exact h.symm
  · intro h
    refine ⟨?_, h.symm⟩
    have := congrArg List.length h
    simp [gop] at this ⊢
    omega

theorem below_drewN {w : World} (h : Below w.heap.size w w) (n : Nat) : Below w.heap.size w (w.drewN n) := ⟨rfl, rfl, rfl, Nat.le_refl _, fun _ _ => rfl⟩

set_option maxHeartbeats 4000000 in
theorem spv_any (s : ByteArray) (w : World) (hs : s.size ≤ 4294967296) (hp : gop.isPrefixOf s.data.toList = false) :
    Calls Try.prog 31 #[.string s] w fun e w' => SpvE s.data.toList e ∧ Below w.heap.size w w' := by
  have hm : s.size ≤ maxLen := by unfold maxLen; omega
  have P := fun wx => hasPrefix_any s ⟨#[103, 111, 112, 107, 103, 46, 105, 110, 47]⟩ wx hm (by decide)
  rw [pre9, hp] at P
  have P' := Lib.hid P
  clear P hp
  have hb0 := Lib.hid (Below.refl w.heap.size w)
  go_enter Try.func31, Try.ntmps31
  go_wp2_with (go_at_call 42; refine (P'.out _).mono ?_; rintro e w' ⟨rfl, rfl⟩)
  go_loop [5, 6] (fun i d => ∃ (k : Nat) (b : Bool), k ≤ s.size ∧ i = .int .i64 k ∧ d = .bool b ∧ Hid (b = inB (s.data.toList.drop k) 46) ∧ Hid (∀ c ∈ s.data.toList.drop k, isDD c = true)) (fun i _ => (intOf i).toNat)
  case atStart => exact ⟨s.size, false, Nat.le_refl _, rfl, rfl, Lib.hid (by rw [List.drop_of_length_le (by simp)]; rfl), Lib.hid (by rw [List.drop_of_length_le (by simp)]; simp)⟩
  case round =>
    obtain ⟨k, b, hk, rfl, rfl, hb, hd⟩ := hrel
    by_cases h0 : k = 0
    · subst h0
      have HE : Hid (Ends s.data.toList 0) := Lib.hid ⟨Nat.zero_le _, hd.out, .inl rfl⟩
      have E : Hid (spvAt s.data.toList 0 = (s.data.toList, [], true)) := Lib.hid (by unfold spvAt; rw [if_pos (.inl (Nat.zero_le _))])
      go_wp2
      go_ret3
      exact ⟨SpvE.of HE.out E.out, hb0.out⟩
    · have h1 : 1 ≤ k := by omega
      have hj : k - 1 < s.size := by omega
      have h3 : (0 : Int) ≤ (k : Int) - 1 := by omega
      have h4 : ((k : Int) - 1).toNat = k - 1 := by omega
      have hdr : s.data.toList.drop (k - 1) = s[k - 1] :: s.data.toList.drop k := by rw [drop_step s (k - 1) hj, show k - 1 + 1 = k from by omega]
      have HDR := Lib.hid hdr
      clear h0 hdr
      by_cases hdig : 48 ≤ (s[k - 1].toNat : Int) ∧ (s[k - 1].toNat : Int) ≤ 57
      · obtain ⟨hq, hr⟩ := hdig
        have e46 : ((s[k - 1].toNat : Int) == 46) = false := by simp; omega
        go_wp2
        go_round
        case rel => 
          refine ⟨k - 1, b, by omega, by go_num, rfl, Lib.hid ?_, Lib.hid ?_⟩
          · rw [HDR.out, hb.out, inB_cons_ne (by simpa using e46)]
          · rw [HDR.out]; intro c hc; rcases List.mem_cons.1 hc with rfl | hc
            · unfold isDD; simp; omega
            · exact hd.out c hc
        case measure => simp [intOf]; omega
      · by_cases hdot : (s[k - 1].toNat : Int) = 46
        · have e46 : ((s[k - 1].toNat : Int) == 46) = true := by simpa using hdot
          have hq : (s[k - 1].toNat : Int) < 48 := by omega
          have HT : Hid (s[k - 1] = 46) := Lib.hid (UInt8.toNat_inj.1 (by show s[k - 1].toNat = (46 : UInt8).toNat; simp; omega))
          clear hdig hdot
          go_wp2
          go_round
          case rel =>
            refine ⟨k - 1, true, by omega, by go_num, rfl, Lib.hid ?_, Lib.hid ?_⟩
            · rw [HDR.out, HT.out]; exact (inB_true (by simp)).symm
            · rw [HDR.out, HT.out]; intro c hc; rcases List.mem_cons.1 hc with rfl | hc
              · rfl
              · exact hd.out c hc
          case measure => simp [intOf]; omega
        · have e46 : ((s[k - 1].toNat : Int) == 46) = false := by simpa using hdot
          have HND : Hid (isDD s[k - 1] = false) := Lib.hid (by unfold isDD; simp; omega)
          have HE : Hid (Ends s.data.toList k) := Lib.hid ⟨by rw [size_len]; exact hk, hd.out, .inr ⟨_, byte_at' s (k - 1) hj, HND.out⟩⟩
          have hcls : (s[k - 1].toNat : Int) < 48 ∨ (48 ≤ (s[k - 1].toNat : Int) ∧ 57 < (s[k - 1].toNat : Int)) := by omega
          clear hdig hdot
          by_cases hk1 : k ≤ 1
          · have E : Hid (spvAt s.data.toList k = (s.data.toList, [], true)) := Lib.hid (by unfold spvAt; rw [if_pos (.inl hk1)])
            obtain rfl : k = 1 := by omega
            have hj0 : 0 < s.size := hj
            have f46 : ((s[0].toNat : Int) == 46) = false := e46
            have hcls0 : (s[0].toNat : Int) < 48 ∨ (48 ≤ (s[0].toNat : Int) ∧ 57 < (s[0].toNat : Int)) := hcls
            clear e46 hcls h3 h4 hk1 h1
            rcases hcls0 with hq | ⟨hq, hr⟩
            all_goals
              go_wp2
              go_outline
              go_ret3
              exact ⟨SpvE.of HE.out E.out, hb0.out⟩
          · have hk2 : 2 ≤ k := by omega
            by_cases hkn : k = s.size
            · have E : Hid (spvAt s.data.toList k = (s.data.toList, [], true)) := Lib.hid (by unfold spvAt; rw [if_pos (.inr (.inl (by rw [size_len]; exact hkn)))])
              have hkge : s.size ≤ k := by omega
              clear hkn hk1
              rcases hcls with hq | ⟨hq, hr⟩
              all_goals
                go_wp2
                go_ret3
                exact ⟨SpvE.of HE.out E.out, hb0.out⟩
            · have hkl : k < s.size := by omega
              have e1 : ((k : Int) == (s.size : Int)) = false := by simp; omega
              clear hkn hk1
              rcases bool_two' ((s[k - 1].toNat : Int) != 118) with h118 | h118
              · have E : Hid (spvAt s.data.toList k = (s.data.toList, [], true)) := Lib.hid (by unfold spvAt; rw [if_pos (.inr (.inr (.inl (byte_isnt (h := hj) (c := 118) (by simpa using h118)))))])
                rcases hcls with hq | ⟨hq, hr⟩
                all_goals
                  go_wp2
                  go_ret3
                  exact ⟨SpvE.of HE.out E.out, hb0.out⟩
              · have h118' : (s[k - 1].toNat : Int) = 118 := by simpa using h118
                have hq : 48 ≤ (s[k - 1].toNat : Int) := by omega
                have hr : 57 < (s[k - 1].toNat : Int) := by omega
                clear h118' hcls
                have hj2 : k - 2 < s.size := by omega
                have h5 : (0 : Int) ≤ (k : Int) - 2 := by omega
                have h6 : ((k : Int) - 2).toNat = k - 2 := by omega
                rcases bool_two' ((s[k - 2].toNat : Int) != 47) with h47 | h47
                · have E : Hid (spvAt s.data.toList k = (s.data.toList, [], true)) := Lib.hid (by unfold spvAt; rw [if_pos (.inr (.inr (.inr (byte_isnt (h := hj2) (c := 47) (by simpa using h47)))))])
                  go_wp2
                  go_ret3
                  exact ⟨SpvE.of HE.out E.out, hb0.out⟩
                · have NB : Hid (¬ (k ≤ 1 ∨ k = s.data.toList.length ∨ s.data.toList[k - 1]? ≠ some 118 ∨ s.data.toList[k - 2]? ≠ some 47)) := Lib.hid (by
                    have B1 := byte_is (p := s) (h := hj) (c := 118) (by simpa using h118)
                    have B2 := byte_is (p := s) (h := hj2) (c := 47) (by simpa using h47)
                    rw [B1, B2, size_len]; simp; omega)
                  have hx2 : 2 < (s.extract (k - 2) s.size).size := by simp; omega
                  have EX := Lib.hid (extract_drop s (k - 2))
                  have ET := Lib.hid (extract_take s (k - 2))
                  have EV : Hid (spvAt s.data.toList k = if inB (s.data.toList.drop k) 46 = true ∨ (s.data.toList.drop (k - 2)).length ≤ 2 ∨ (s.data.toList.drop (k - 2))[2]? = some 48 ∨ s.data.toList.drop (k - 2) = [47, 118, 49] then (s.data.toList, [], false) else (s.data.toList.take (k - 2), s.data.toList.drop (k - 2), true)) := Lib.hid (by unfold spvAt; rw [if_neg NB.out])
                  cases b
                  · rcases bool_two' (((s.extract (k - 2) s.size)[2].toNat : Int) == 48) with h48 | h48
                    · have E : Hid (spvAt s.data.toList k = (s.data.toList, [], false)) := Lib.hid (by
                        rw [EV.out, if_pos (.inr (.inr (.inl (by rw [← EX.out]; exact byte_is (h := hx2) (c := 48) (by simpa using h48)))))])
                      go_wp2
                      go_quiet (fail)
                      go_wp2
                      go_ret3
                      exact ⟨SpvE.of HE.out E.out, below_drewN hb0.out _⟩
                    · rcases bool_two' ((s.extract (k - 2) s.size).toList == [47, 118, 49]) with hv1 | hv1
                      · have E : Hid (spvAt s.data.toList k = (s.data.toList, [], false)) := Lib.hid (by
                          rw [EV.out, if_pos (.inr (.inr (.inr (by rw [← EX.out, ← Lib.toList_data]; exact beq_iff_eq.1 hv1))))])
                        go_wp2
                        go_quiet (fail)
                        go_wp2
                        go_ret3
                        exact ⟨SpvE.of HE.out E.out, below_drewN hb0.out _⟩
                      · have E : Hid (spvAt s.data.toList k = ((s.extract 0 (k - 2)).data.toList, (s.extract (k - 2) s.size).data.toList, true)) := Lib.hid (by
                          rw [EV.out, if_neg, EX.out, ET.out]
                          rintro (h' | h' | h' | h')
                          · rw [← hb.out] at h'; cases h'
                          · rw [← EX.out, size_len] at h'; omega
                          · rw [← EX.out] at h'; exact byte_isnt (h := hx2) (c := 48) (by simpa using h48) h'
                          · rw [← EX.out, ← Lib.toList_data] at h'; rw [h'] at hv1; revert hv1; decide)
                        go_wp2
                        go_quiet (fail)
                        go_wp2
                        go_ret3
                        exact ⟨SpvE.of HE.out E.out, below_drewN hb0.out _⟩
                  · have E : Hid (spvAt s.data.toList k = (s.data.toList, [], false)) := Lib.hid (by
                      rw [EV.out, if_pos (.inl hb.out.symm)])
                    go_wp2
                    go_quiet (fail)
                    go_wp2
                    go_ret3
                    exact ⟨SpvE.of HE.out E.out, below_drewN hb0.out _⟩
end Go.Proofs.Ytdinaphcglmhoaa
