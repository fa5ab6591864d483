/-
  parseBuild, parsePrerelease, with the draws. PRINTED by gen_d.py.
-/
import Derived.Test.YtdinaphcglmhoaaPre
import Derived.Test.YtdinaphcglmhoaaDrawn
namespace Go.Proofs.Ytdinaphcglmhoaa
open Go.RowKit
set_option linter.unusedVariables false
set_option linter.unusedSimpArgs false

set_option maxHeartbeats 4000000 in
theorem parseBuild_anyD (s : ByteArray) (w : World) (hs : s.size ≤ 4294967296) (h0 : 0 < s.size) (hch : s[0] = 43) :
    Calls Try.prog 74 #[.string s] w fun e w' => OptE (spanBuild s.data.toList) e ∧ BelowD w.heap.size w w' := by
  have hb0 := Lib.hid (BelowD.refl w.heap.size w)
  have he : s.toList.isEmpty = false := by
    rw [Lib.toList_data]; cases h : s.data.toList with
    | nil => exfalso; have := size_len s; rw [h] at this; simp at this; omega
    | cons => rfl
  have e0 : ((s[0].toNat : Int) != 43) = false := by rw [hch]; rfl
  have HCH := Lib.hid hch
  clear hch
  go_enter Try.func74, Try.ntmps74
  go_wp2
  go_loop [5, 6] (fun i a => ∃ k st : Nat, 1 ≤ k ∧ k ≤ s.size ∧ st ≤ k ∧ i = .int .i64 k ∧ a = .int .i64 st ∧ Hid (PreR false s st k)) (fun i _ => s.size - (intOf i).toNat)
  case atStart => exact ⟨1, 1, Nat.le_refl _, h0, Nat.le_refl _, rfl, rfl, Lib.hid (by unfold PreR; rw [cur_nil]; exact PreInv.start false)⟩
  case round =>
    obtain ⟨k, st, hk1, hk, hst, rfl, rfl, hinv⟩ := hrel
    have EB : Hid (spanBuild s.data.toList = if partsB (s.data.toList.drop 1) false then some (s.data.toList, []) else none) := Lib.hid rfl
    by_cases hlt : k < s.size
    · have HX := Lib.hid (body_at s k hk1)
      have HB := Lib.hid (drop_cons s k hlt)
      have HSN := Lib.hid (body_snoc s k hk1 hlt)
      obtain ⟨ib, hib⟩ : ∃ ib, idB s[k] = ib := ⟨_, rfl⟩
      have C := fun wx => isIdent_any s[k] wx
      rw [hib] at C
      have C := Lib.hid C
      have HIB := Lib.hid hib
      clear hib
      by_cases h46 : (s[k].toNat : Int) = 46
      · have h46' := Lib.hid (byte_eq' (n := 46) h46)
        have e46 : ((s[k].toNat : Int) == 46) = true := by simpa using h46
        have e46' : ((s[k].toNat : Int) != 46) = false := by simpa using h46
        have e46n : (s[k].toNat : Int) ≤ 46 := by omega
        clear h46
        by_cases hsk : st = k
        · have E : Hid (spanBuild s.data.toList = none) := Lib.hid (by
            rw [EB.out, if_neg]
            rw [HX.out, HB.out, h46'.out, PreInv.dot_bad hinv.out (by rw [hsk, cur_nil]; rfl)]
            simp)
          have hge : k ≤ st := by omega
          have e1 : ((st : Int) == (k : Int)) = true := by simp; omega
          clear hsk
          cases ib
          all_goals
            go_wp2_with (go_at_call 88; refine (C.out _).mono ?_; rintro e w' ⟨rfl, rfl⟩)
            go_ret3
            exact ⟨OptE.no E.out, hb0.out⟩
        · have hlt2 : st < k := by omega
          have e1 : ((st : Int) == (k : Int)) = false := by simp; omega
          have HN : Hid (PreR false s (k + 1) (k + 1)) := Lib.hid (by
            unfold PreR
            rw [HSN.out, h46'.out, cur_nil]
            exact PreInv.dot hinv.out (by rw [PreInv.piece hinv.out (cur_ne s st k hlt2 hk)]; rfl))
          clear hsk
          cases ib
          all_goals
            go_wp2_with (go_at_call 88; refine (C.out _).mono ?_; rintro e w' ⟨rfl, rfl⟩)
            go_round
            case rel => exact ⟨k + 1, k + 1, by omega, by omega, by omega, by go_num, by go_num, HN⟩
            case measure => simp [intOf]; omega
      · have e46 : ((s[k].toNat : Int) == 46) = false := by simpa using h46
        have e46' : ((s[k].toNat : Int) != 46) = true := by simpa using h46
        have HN46 := Lib.hid (byte_ne' (n := 46) h46)
        clear h46
        cases ib
        · have E : Hid (spanBuild s.data.toList = none) := Lib.hid (by
            rw [EB.out, if_neg]
            rw [HX.out, HB.out, parts_bad_char (c := s[k]) (by simp) HN46.out HIB.out]
            simp)
          go_wp2_with (go_at_call 88; refine (C.out _).mono ?_; rintro e w' ⟨rfl, rfl⟩)
          go_ret3
          exact ⟨OptE.no E.out, hb0.out⟩
        · have HN : Hid (PreR false s st (k + 1)) := Lib.hid (by
            unfold PreR
            rw [HSN.out, cur_snoc s st k hst hlt]
            exact PreInv.ident hinv.out HN46.out HIB.out)
          go_wp2_with (go_at_call 88; refine (C.out _).mono ?_; rintro e w' ⟨rfl, rfl⟩)
          go_round
          case rel => exact ⟨k + 1, st, by omega, by omega, by omega, by go_num, rfl, HN⟩
          case measure => simp [intOf]; omega
    · have HEND : Hid (s.data.toList.drop 1 = (s.data.toList.drop 1).take (k - 1)) := Lib.hid (by
        rw [List.take_of_length_le (by simp; omega)])
      by_cases hsk : st = k
      · have E : Hid (spanBuild s.data.toList = none) := Lib.hid (by
          rw [EB.out, if_neg]
          rw [HEND.out, PreInv.fin hinv.out, hsk, cur_nil]; simp [piece_nil])
        have hge : k ≤ st := by omega
        have e1 : ((st : Int) == (k : Int)) = true := by simp; omega
        clear hsk
        go_wp2
        go_ret3
        exact ⟨OptE.no E.out, hb0.out⟩
      · have hlt2 : st < k := by omega
        have e1 : ((st : Int) == (k : Int)) = false := by simp; omega
        clear hsk
        have E : Hid (spanBuild s.data.toList = some ((s.extract 0 k).data.toList, (s.extract k s.size).data.toList)) := Lib.hid (by
          rw [EB.out, if_pos (by rw [HEND.out, PreInv.fin hinv.out, PreInv.piece hinv.out (cur_ne s st k hlt2 hk)]; rfl), extract_take, extract_drop, take_all s k (by omega), List.drop_of_length_le (by rw [size_len]; omega)])
        go_wp2
        go_quiet (fail)
        go_wp2
        go_ret3
        exact ⟨OptE.yes E.out, belowD_dr hb0.out _⟩

set_option maxHeartbeats 4000000 in
theorem parsePre_anyD (s : ByteArray) (w : World) (hs : s.size ≤ 4294967296) (h0 : 0 < s.size) (hch : s[0] = 45) :
    Calls Try.prog 73 #[.string s] w fun e w' => OptE (spanPre s.data.toList) e ∧ BelowD w.heap.size w w' := by
  have hb0 := Lib.hid (BelowD.refl w.heap.size w)
  have he : s.toList.isEmpty = false := by
    rw [Lib.toList_data]; cases h : s.data.toList with
    | nil => exfalso; have := size_len s; rw [h] at this; simp at this; omega
    | cons => rfl
  have e0 : ((s[0].toNat : Int) != 45) = false := by rw [hch]; rfl
  have HCH := Lib.hid hch
  clear hch
  go_enter Try.func73, Try.ntmps73
  go_wp2
  go_loop [5, 6] (fun i a => ∃ k st : Nat, 1 ≤ k ∧ k ≤ s.size ∧ st ≤ k ∧ i = .int .i64 k ∧ a = .int .i64 st ∧ Hid (PreR true s st k) ∧ Hid (∀ c ∈ (s.data.toList.drop 1).take (k - 1), np c = true)) (fun i _ => s.size - (intOf i).toNat)
  case atStart => exact ⟨1, 1, Nat.le_refl _, h0, Nat.le_refl _, rfl, rfl, Lib.hid (by unfold PreR; rw [cur_nil]; exact PreInv.start true), Lib.hid (by simp)⟩
  case round =>
    obtain ⟨k, st, hk1, hk, hst, rfl, rfl, hinv, hnp⟩ := hrel
    have TK : Hid (∀ r : Bs, s.data.toList.drop k = r → (s.data.toList.drop 1).takeWhile np = (s.data.toList.drop 1).take (k - 1) ++ r.takeWhile np ∧ (s.data.toList.drop 1).dropWhile np = r.dropWhile np) := Lib.hid (fun r hr => by
      have hx := body_at s k hk1
      rw [hr] at hx
      constructor
      · conv => lhs; rw [hx]
        exact List.takeWhile_append_of_pos hnp.out
      · conv => lhs; rw [hx]
        exact List.dropWhile_append_of_pos hnp.out)
    have EB : Hid (spanPre s.data.toList = if partsB ((s.data.toList.drop 1).takeWhile np) true then some (45 :: (s.data.toList.drop 1).takeWhile np, (s.data.toList.drop 1).dropWhile np) else none) := Lib.hid rfl
    by_cases hlt : k < s.size
    · by_cases h43 : (s[k].toNat : Int) = 43
      · have h43' := byte_eq' (n := 43) h43
        have e43 : ((s[k].toNat : Int) != 43) = false := by simpa using h43
        have hd := drop_cons s k hlt
        have HEND : Hid ((s.data.toList.drop 1).takeWhile np = (s.data.toList.drop 1).take (k - 1)) := Lib.hid (by
          rw [(TK.out _ hd).1, h43', show List.takeWhile np (43 :: s.data.toList.drop (k + 1)) = [] from rfl, List.append_nil])
        have HDW : Hid ((s.data.toList.drop 1).dropWhile np = s.data.toList.drop k) := Lib.hid (by
          rw [(TK.out _ hd).2, hd, h43']; rfl)
        clear h43 h43' hd
        by_cases hsk : st = k
        · have E : Hid (spanPre s.data.toList = none) := Lib.hid (by
            rw [EB.out, if_neg]
            rw [HEND.out, PreInv.fin hinv.out, hsk, cur_nil]; simp [piece_nil])
          have hge : k ≤ st := by omega
          have e1 : ((st : Int) == (k : Int)) = true := by simp; omega
          clear hsk
          go_wp2
          go_ret3
          exact ⟨OptE.no E.out, hb0.out⟩
        · have hlt2 : st < k := by omega
          have hxs : (s.extract st k).size ≤ 4294967296 := by simp; omega
          obtain ⟨bb, hbb⟩ : ∃ bb, badB (s.extract st k).data.toList = bb := ⟨_, rfl⟩
          have CB := fun wx => isBadNum_any (s.extract st k) wx hxs
          rw [hbb] at CB
          rw [extract_cur] at hbb
          have CB := Lib.hid CB
          have HBB := Lib.hid hbb
          have e1 : ((st : Int) == (k : Int)) = false := by simp; omega
          clear hsk hbb hxs
          cases bb
          · have E : Hid (spanPre s.data.toList = some ((s.extract 0 k).data.toList, (s.extract k s.size).data.toList)) := Lib.hid (by
              rw [EB.out, if_pos (by rw [HEND.out, PreInv.fin hinv.out, PreInv.piece hinv.out (cur_ne s st k hlt2 hk), HBB.out]; rfl), HEND.out, HDW.out, extract_take, extract_drop, head_take s k hk1 hk h0 HCH.out])
            go_wp2_with (go_at_call 89; refine (CB.out _).mono ?_; rintro e w' ⟨rfl, rfl⟩)
            go_quiet (fail)
            go_wp2
            go_ret3
            exact ⟨OptE.yes E.out, belowD_dr hb0.out _⟩
          · have E : Hid (spanPre s.data.toList = none) := Lib.hid (by
              rw [EB.out, if_neg]
              rw [HEND.out, PreInv.fin hinv.out, PreInv.piece hinv.out (cur_ne s st k hlt2 hk), HBB.out]; simp)
            go_wp2_with (go_at_call 89; refine (CB.out _).mono ?_; rintro e w' ⟨rfl, rfl⟩)
            go_ret3
            exact ⟨OptE.no E.out, hb0.out⟩
      · have e43 : ((s[k].toNat : Int) != 43) = true := by simpa using h43
        have HN43 := Lib.hid (byte_ne' (n := 43) h43)
        clear h43
        have HB := Lib.hid (drop_cons s k hlt)
        have HSN := Lib.hid (body_snoc s k hk1 hlt)
        have HNP : Hid (∀ c ∈ (s.data.toList.drop 1).take (k + 1 - 1), np c = true) := Lib.hid (by
          rw [HSN.out]; intro c hc
          rcases List.mem_append.1 hc with hc | hc
          · exact hnp.out c hc
          · simp at hc; rw [hc]; exact np_iff.2 HN43.out)
        obtain ⟨ib, hib⟩ : ∃ ib, idB s[k] = ib := ⟨_, rfl⟩
        have C := fun wx => isIdent_any s[k] wx
        rw [hib] at C
        have C := Lib.hid C
        have HIB := Lib.hid hib
        clear hib
        by_cases h46 : (s[k].toNat : Int) = 46
        · have h46' := Lib.hid (byte_eq' (n := 46) h46)
          have e46 : ((s[k].toNat : Int) == 46) = true := by simpa using h46
          have e46' : ((s[k].toNat : Int) != 46) = false := by simpa using h46
          have e46n : (s[k].toNat : Int) ≤ 46 := by omega
          clear h46
          by_cases hsk : st = k
          · have E : Hid (spanPre s.data.toList = none) := Lib.hid (by
              rw [EB.out, if_neg]
              rw [(TK.out _ HB.out).1, List.takeWhile_cons, if_pos (np_iff.2 HN43.out), h46'.out, PreInv.dot_bad hinv.out (by rw [hsk, cur_nil]; rfl)]
              simp)
            have hge : k ≤ st := by omega
            have e1 : ((st : Int) == (k : Int)) = true := by simp; omega
            clear hsk
            cases ib
            all_goals
              go_wp2_with (go_at_call 88; refine (C.out _).mono ?_; rintro e w' ⟨rfl, rfl⟩)
              go_ret3
              exact ⟨OptE.no E.out, hb0.out⟩
          · have hlt2 : st < k := by omega
            have e1 : ((st : Int) == (k : Int)) = false := by simp; omega
            have hxs : (s.extract st k).size ≤ 4294967296 := by simp; omega
            obtain ⟨bb, hbb⟩ : ∃ bb, badB (s.extract st k).data.toList = bb := ⟨_, rfl⟩
            have CB := fun wx => isBadNum_any (s.extract st k) wx hxs
            rw [hbb] at CB
            rw [extract_cur] at hbb
            have CB := Lib.hid CB
            have HBB := Lib.hid hbb
            clear hsk hbb hxs
            cases bb
            · have HN : Hid (PreR true s (k + 1) (k + 1)) := Lib.hid (by
                unfold PreR
                rw [HSN.out, h46'.out, cur_nil]
                exact PreInv.dot hinv.out (by rw [PreInv.piece hinv.out (cur_ne s st k hlt2 hk), HBB.out]; rfl))
              cases ib
              all_goals
                go_wp2_with (first | (go_at_call 88; refine (C.out _).mono ?_; rintro e w' ⟨rfl, rfl⟩) | (go_at_call 89; refine (CB.out _).mono ?_; rintro e w' ⟨rfl, rfl⟩))
                go_round
                case rel => exact ⟨k + 1, k + 1, by omega, by omega, by omega, by go_num, by go_num, HN, HNP⟩
                case measure => simp [intOf]; omega
            · have E : Hid (spanPre s.data.toList = none) := Lib.hid (by
                rw [EB.out, if_neg]
                rw [(TK.out _ HB.out).1, List.takeWhile_cons, if_pos (np_iff.2 HN43.out), h46'.out, PreInv.dot_bad hinv.out (by rw [PreInv.piece hinv.out (cur_ne s st k hlt2 hk), HBB.out]; rfl)]
                simp)
              cases ib
              all_goals
                go_wp2_with (first | (go_at_call 88; refine (C.out _).mono ?_; rintro e w' ⟨rfl, rfl⟩) | (go_at_call 89; refine (CB.out _).mono ?_; rintro e w' ⟨rfl, rfl⟩))
                go_ret3
                exact ⟨OptE.no E.out, hb0.out⟩
        · have e46 : ((s[k].toNat : Int) == 46) = false := by simpa using h46
          have e46' : ((s[k].toNat : Int) != 46) = true := by simpa using h46
          have HN46 := Lib.hid (byte_ne' (n := 46) h46)
          clear h46
          cases ib
          · have E : Hid (spanPre s.data.toList = none) := Lib.hid (by
              rw [EB.out, if_neg]
              rw [(TK.out _ HB.out).1, List.takeWhile_cons, if_pos (np_iff.2 HN43.out), parts_bad_char (c := s[k]) (by simp) HN46.out HIB.out]
              simp)
            go_wp2_with (go_at_call 88; refine (C.out _).mono ?_; rintro e w' ⟨rfl, rfl⟩)
            go_ret3
            exact ⟨OptE.no E.out, hb0.out⟩
          · have HN : Hid (PreR true s st (k + 1)) := Lib.hid (by
              unfold PreR
              rw [HSN.out, cur_snoc s st k hst hlt]
              exact PreInv.ident hinv.out HN46.out HIB.out)
            go_wp2_with (go_at_call 88; refine (C.out _).mono ?_; rintro e w' ⟨rfl, rfl⟩)
            go_round
            case rel => exact ⟨k + 1, st, by omega, by omega, by omega, by go_num, rfl, HN, HNP⟩
            case measure => simp [intOf]; omega
    · have hd : s.data.toList.drop k = [] := List.drop_of_length_le (by rw [size_len]; omega)
      have HEND : Hid ((s.data.toList.drop 1).takeWhile np = (s.data.toList.drop 1).take (k - 1)) := Lib.hid (by
        rw [(TK.out _ hd).1]; simp)
      have HDW : Hid ((s.data.toList.drop 1).dropWhile np = s.data.toList.drop k) := Lib.hid (by
        rw [(TK.out _ hd).2, hd]; rfl)
      clear hd
      by_cases hsk : st = k
      · have E : Hid (spanPre s.data.toList = none) := Lib.hid (by
          rw [EB.out, if_neg]
          rw [HEND.out, PreInv.fin hinv.out, hsk, cur_nil]; simp [piece_nil])
        have hge : k ≤ st := by omega
        have e1 : ((st : Int) == (k : Int)) = true := by simp; omega
        clear hsk
        go_wp2
        go_ret3
        exact ⟨OptE.no E.out, hb0.out⟩
      · have hlt2 : st < k := by omega
        have hxs : (s.extract st k).size ≤ 4294967296 := by simp; omega
        obtain ⟨bb, hbb⟩ : ∃ bb, badB (s.extract st k).data.toList = bb := ⟨_, rfl⟩
        have CB := fun wx => isBadNum_any (s.extract st k) wx hxs
        rw [hbb] at CB
        rw [extract_cur] at hbb
        have CB := Lib.hid CB
        have HBB := Lib.hid hbb
        have e1 : ((st : Int) == (k : Int)) = false := by simp; omega
        clear hsk hbb hxs
        cases bb
        · have E : Hid (spanPre s.data.toList = some ((s.extract 0 k).data.toList, (s.extract k s.size).data.toList)) := Lib.hid (by
            rw [EB.out, if_pos (by rw [HEND.out, PreInv.fin hinv.out, PreInv.piece hinv.out (cur_ne s st k hlt2 hk), HBB.out]; rfl), HEND.out, HDW.out, extract_take, extract_drop, head_take s k hk1 hk h0 HCH.out])
          go_wp2_with (go_at_call 89; refine (CB.out _).mono ?_; rintro e w' ⟨rfl, rfl⟩)
          go_quiet (fail)
          go_wp2
          go_ret3
          exact ⟨OptE.yes E.out, belowD_dr hb0.out _⟩
        · have E : Hid (spanPre s.data.toList = none) := Lib.hid (by
            rw [EB.out, if_neg]
            rw [HEND.out, PreInv.fin hinv.out, PreInv.piece hinv.out (cur_ne s st k hlt2 hk), HBB.out]; simp)
          go_wp2_with (go_at_call 89; refine (CB.out _).mono ?_; rintro e w' ⟨rfl, rfl⟩)
          go_ret3
          exact ⟨OptE.no E.out, hb0.out⟩


end Go.Proofs.Ytdinaphcglmhoaa
