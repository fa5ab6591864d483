/-
  The walk of module.MatchPrefixPatterns, and of impl's.
-/
import Derived.Test.YtdinaphcglmhoaaDoorMppP
import Derived.Test.YtdinaphcglmhoaaDoorMatch
namespace Go.Proofs.YtdinaphcglmhoaaDoor
open Go.RowKit
set_option linter.unusedVariables false

def MppE (g t : Bs) (w : World) (e : Ending) (w' : World) : Prop := ∃ b : Bool, e = .returned (.bool b) ∧ MpR g t b ∧ Below w.heap.size w w'

theorem trim_any (q : ByteArray) (hq : q.size ≤ 4294967296) : ∃ v : ByteArray, v.data.toList = trimS q.data.toList ∧ v.size ≤ q.size ∧ ∀ wx, Calls Tryd.prog 17 #[.string q, .string ⟨#[47]⟩] wx fun e w' => e = .returned (.string v) ∧ wx = w' := by
  have hm : q.size ≤ maxLen := by unfold maxLen; omega
  have T := fun wx => trimSuffix_any q ⟨#[47]⟩ wx hm (by decide)
  have e1 : (⟨#[47]⟩ : ByteArray).data.toList = [47] := rfl
  rw [e1] at T
  by_cases h : sufB [47] q.data.toList = true
  · rw [if_pos h] at T
    refine ⟨q.extract 0 (q.size - 1), ?_, by simp, T⟩
    unfold trimS
    rw [if_pos h, extract_take, size_len]
  · rw [if_neg h] at T
    refine ⟨q, ?_, Nat.le_refl _, T⟩
    unfold trimS
    rw [if_neg h]

set_option maxRecDepth 100000 in
set_option maxHeartbeats 16000000 in
theorem mpp_any (g0 t : ByteArray) (w : World) (hG : Glo w) (hg : g0.size ≤ 4294967296) (ht : t.size ≤ 4294967296) :
    Calls Tryd.prog 10 #[.string g0, .string t] w (MppE g0.data.toList t.data.toList w) := by
  have HG0 := Lib.hid hG
  clear hG
  go_enter Tryd.func10, Tryd.ntmps10
  go_wp2
  go_loopg [0] g0.size (fun n q wr => ∃ g : ByteArray, g.size ≤ n ∧ q = .string g ∧ g.size ≤ g0.size ∧ Hid (Below w.heap.size w wr) ∧ Hid (Glo wr) ∧ Hid (PI g0.data.toList t.data.toList g.data.toList))
  case atStart => exact ⟨g0, Nat.le_refl _, rfl, Nat.le_refl _, Lib.hid (Below.refl _ _), HG0, Lib.hid (PI.start _ _)⟩
  case round =>
    obtain ⟨g, hgk, rfl, hgs, HB, HG, HP⟩ := hrel
    obtain ⟨g9, rfl⟩ : ∃ g9, g9 = gk := ⟨_, rfl⟩
    obtain ⟨wo, rfl⟩ : ∃ wo : World, wo = wr := ⟨_, rfl⟩
    rcases bool_or g.toList.isEmpty with he | he
    · have R : Hid (MpR g0.data.toList t.data.toList false) := Lib.hid (by
        have h := HP.out
        rw [Lib.toList_data, List.isEmpty_iff] at he
        rw [he] at h; exact h.stop)
      go_wp2
      go_ret
      exact ⟨false, rfl, R.out, HB.out⟩
    · have hg4 : g.size ≤ 4294967296 := by omega
      have hgp : 0 < g.size := by
        rcases Nat.eq_zero_or_pos g.size with h | h
        · exfalso; rw [Lib.toList_data, (nil_iff g).2 h] at he; cases he
        · exact h
      have ZC := Lib.hid (zzCut_any g ⟨#[44]⟩ 44 rfl wo hg4)
      go_wp2_with fail
      refine ZC.out.mono ?_
      rintro e w1 ⟨x, y, f, rfl, hcut, hb⟩
      have HG1 := Lib.hid (HG.out.below hb)
      have HB1 := Lib.hid (below_tr HB.out hb)
      clear hb ZC
      rcases hcut with ⟨rfl, rfl, rfl, hno⟩ | ⟨rfl, hno, hcat⟩
      · have SP : Hid (SplitG x.data.toList x.data.toList []) := Lib.hid ⟨hno, .inr ⟨rfl, rfl⟩⟩
        have hys : (⟨#[]⟩ : ByteArray).size < x.size := hgp
        clear hno
        obtain ⟨v, hvd, hvs, hT⟩ := trim_any x (by omega)
        have HV := Lib.hid hvd
        have TS := Lib.hid hT
        clear hvd hT
        go_wp2_with fail
        refine (TS.out _).mono ?_
        rintro e w' ⟨rfl, rfl⟩
        rcases bool_or v.toList.isEmpty with hve | hve
        · have N : Hid (PI g0.data.toList t.data.toList (⟨#[]⟩ : ByteArray).data.toList) := Lib.hid (HP.out.next SP.out (fun _ => okP_empty (by rw [← HV.out]; rw [Lib.toList_data, List.isEmpty_iff] at hve; exact hve)))
          go_wp2
          go_roundg (⟨#[]⟩ : ByteArray).size
          case rel => exact ⟨(⟨#[]⟩ : ByteArray), Nat.le_refl _, rfl, by omega, HB1, HG1, N⟩
          case measure => omega
        · have HNE : Hid (trimS x.data.toList ≠ []) := Lib.hid (by rw [← HV.out]; intro h; rw [Lib.toList_data, h] at hve; cases hve)
          have hv4 : v.size ≤ 4294967296 := by omega
          have CT := Lib.hid (fun wx => zzCount_any v ⟨#[47]⟩ 47 rfl wx hv4)
          obtain ⟨M, hM⟩ : ∃ M, cntB v.data.toList 47 = M := ⟨_, rfl⟩
          have HM : Hid ((trimS x.data.toList).count 47 = M) := Lib.hid (by rw [← HV.out]; exact hM)
          have hMl : M ≤ 4294967296 := by
            rw [← hM]; unfold cntB
            have := List.count_le_length (a := (47 : UInt8)) (l := v.data.toList)
            rw [size_len] at this; omega
          rw [hM] at CT
          clear hM
          go_wp2_with fail
          refine (CT.out _).mono ?_
          rintro e w' ⟨rfl, rfl⟩
          go_wp2
          go_loopg [9, 10, 11] t.size (fun n a b i wr => ∃ k m : Nat, k ≤ t.size ∧ t.size - k ≤ n ∧ a = .int .i64 m ∧ b = .string t ∧ i = .int .i64 k ∧ m ≤ M ∧ Hid (m + (t.data.toList.take k).count 47 = M) ∧ w1 = wr)
          case atStart => exact ⟨0, M, Nat.zero_le _, Nat.sub_le _ _, rfl, rfl, rfl, Nat.le_refl _, Lib.hid (by simp), rfl⟩
          case round =>
            obtain ⟨k, m, hk, hkn, rfl, rfl, rfl, hmM, HC, rfl⟩ := hrel
            by_cases hlt : k < t.size
            · rcases bool_or ((t[k].toNat : Int) == 47) with k47 | k47
              · have HAT : Hid (t.data.toList[k]? = some 47) := Lib.hid (by rw [byte_at' t k hlt]; congr 1; exact byte_eq (b := 47) k47)
                cases m with
                | zero =>
                  have hpre : (t.extract 0 k).size ≤ 4294967296 := by simp; omega
                  have MT := Lib.hid (match_any v (t.extract 0 k) w1 HG1.out hv4 hpre)
                  go_wp2_with fail
                  refine MT.out.mono ?_
                  rintro e w5 ⟨b, err, rfl, hmr, hb⟩
                  rw [HV.out, extract_take] at hmr
                  have OK := Lib.hid (okP_at HP.out SP.out (k := k) (by rw [size_len]; exact hk) (.inr HAT.out) (by have := HC.out; rw [HM.out]; omega) HNE.out hmr)
                  have HG5 := Lib.hid (HG1.out.below hb)
                  have HB5 := Lib.hid (below_tr HB1.out hb)
                  clear hb hmr
                  cases b
                  · have N : Hid (PI g0.data.toList t.data.toList (⟨#[]⟩ : ByteArray).data.toList) := Lib.hid (HP.out.next SP.out (fun hc h => by have := (OK.out hc).2 h; cases this))
                    go_wp2
                    go_roundg (⟨#[]⟩ : ByteArray).size
                    case rel => exact ⟨(⟨#[]⟩ : ByteArray), Nat.le_refl _, rfl, by omega, HB5, HG5, N⟩
                    case measure => omega
                  · have R : Hid (MpR g0.data.toList t.data.toList true) := Lib.hid (HP.out.yes SP.out (fun hc => (OK.out hc).1 rfl))
                    go_wp2
                    go_ret
                    exact ⟨true, rfl, R.out, HB5.out⟩
                | succ m =>
                  have em : (((m + 1 : Nat) : Int) == 0) = false := beq_eq_false_iff_ne.2 (by omega)
                  have HC2 : Hid (m + (t.data.toList.take (k + 1)).count 47 = M) := Lib.hid (by
                    have h := HC.out
                    have e := HAT.out
                    rw [byte_at' t k hlt] at e; injection e with e
                    rw [take_snoc t k hlt, List.count_append, e]
                    have : List.count (47 : UInt8) [47] = 1 := rfl
                    omega)
                  go_wp2
                  go_roundg (t.size - (k + 1))
                  case rel => exact ⟨k + 1, m, by omega, Nat.le_refl _, by first | rfl | (congr 1; omega) | go_num, rfl, by go_num, by omega, HC2, rfl⟩
                  case measure => omega
              · have HC2 : Hid (m + (t.data.toList.take (k + 1)).count 47 = M) := Lib.hid (by
                  have h := HC.out
                  rw [take_snoc t k hlt, List.count_append]
                  have e : t[k] ≠ 47 := byte_ne (b := 47) k47
                  have : List.count (47 : UInt8) [t[k]] = 0 := List.count_eq_zero.2 (by simpa using fun h => e h.symm)
                  omega)
                go_wp2
                go_roundg (t.size - (k + 1))
                case rel => exact ⟨k + 1, m, by omega, Nat.le_refl _, rfl, rfl, by go_num, by omega, HC2, rfl⟩
                case measure => omega
            · have hke : t.data.toList.take k = t.data.toList := take_all t k (by omega)
              by_cases hm0 : 0 < m
              · have N : Hid (PI g0.data.toList t.data.toList (⟨#[]⟩ : ByteArray).data.toList) := Lib.hid (HP.out.next SP.out (fun _ => okP_few (by have := HC.out; rw [hke] at this; rw [HM.out]; omega)))
                clear hke
                go_wp2
                go_roundg (⟨#[]⟩ : ByteArray).size
                case rel => exact ⟨(⟨#[]⟩ : ByteArray), Nat.le_refl _, rfl, by omega, HB1, HG1, N⟩
                case measure => omega
              · have hm0' : m ≤ 0 := by omega
                have MT := Lib.hid (match_any v t w1 HG1.out hv4 ht)
                have HK := Lib.hid hke
                clear hke hm0
                go_wp2_with fail
                refine MT.out.mono ?_
                rintro e w5 ⟨b, err, rfl, hmr, hb⟩
                rw [HV.out, ← HK.out] at hmr
                have OK := Lib.hid (okP_at HP.out SP.out (k := k) (by rw [size_len]; exact hk) (.inl (by rw [size_len]; omega)) (by have := HC.out; rw [HM.out]; omega) HNE.out hmr)
                have HG5 := Lib.hid (HG1.out.below hb)
                have HB5 := Lib.hid (below_tr HB1.out hb)
                clear hb hmr
                cases b
                · have N : Hid (PI g0.data.toList t.data.toList (⟨#[]⟩ : ByteArray).data.toList) := Lib.hid (HP.out.next SP.out (fun hc h => by have := (OK.out hc).2 h; cases this))
                  go_wp2
                  go_roundg (⟨#[]⟩ : ByteArray).size
                  case rel => exact ⟨(⟨#[]⟩ : ByteArray), Nat.le_refl _, rfl, by omega, HB5, HG5, N⟩
                  case measure => omega
                · have R : Hid (MpR g0.data.toList t.data.toList true) := Lib.hid (HP.out.yes SP.out (fun hc => (OK.out hc).1 rfl))
                  go_wp2
                  go_ret
                  exact ⟨true, rfl, R.out, HB5.out⟩
      · have SP : Hid (SplitG g.data.toList x.data.toList y.data.toList) := Lib.hid ⟨hno, .inl hcat⟩
        have hlen := congrArg List.length hcat
        rw [List.length_append, List.length_cons, size_len, size_len, size_len] at hlen
        have hys : y.size < g.size := by omega
        have hxs : x.size ≤ g.size := by omega
        clear hno hcat hlen
        obtain ⟨v, hvd, hvs, hT⟩ := trim_any x (by omega)
        have HV := Lib.hid hvd
        have TS := Lib.hid hT
        clear hvd hT
        go_wp2_with fail
        refine (TS.out _).mono ?_
        rintro e w' ⟨rfl, rfl⟩
        rcases bool_or v.toList.isEmpty with hve | hve
        · have N : Hid (PI g0.data.toList t.data.toList y.data.toList) := Lib.hid (HP.out.next SP.out (fun _ => okP_empty (by rw [← HV.out]; rw [Lib.toList_data, List.isEmpty_iff] at hve; exact hve)))
          go_wp2
          go_roundg y.size
          case rel => exact ⟨y, Nat.le_refl _, rfl, by omega, HB1, HG1, N⟩
          case measure => omega
        · have HNE : Hid (trimS x.data.toList ≠ []) := Lib.hid (by rw [← HV.out]; intro h; rw [Lib.toList_data, h] at hve; cases hve)
          have hv4 : v.size ≤ 4294967296 := by omega
          have CT := Lib.hid (fun wx => zzCount_any v ⟨#[47]⟩ 47 rfl wx hv4)
          obtain ⟨M, hM⟩ : ∃ M, cntB v.data.toList 47 = M := ⟨_, rfl⟩
          have HM : Hid ((trimS x.data.toList).count 47 = M) := Lib.hid (by rw [← HV.out]; exact hM)
          have hMl : M ≤ 4294967296 := by
            rw [← hM]; unfold cntB
            have := List.count_le_length (a := (47 : UInt8)) (l := v.data.toList)
            rw [size_len] at this; omega
          rw [hM] at CT
          clear hM
          go_wp2_with fail
          refine (CT.out _).mono ?_
          rintro e w' ⟨rfl, rfl⟩
          go_wp2
          go_loopg [9, 10, 11] t.size (fun n a b i wr => ∃ k m : Nat, k ≤ t.size ∧ t.size - k ≤ n ∧ a = .int .i64 m ∧ b = .string t ∧ i = .int .i64 k ∧ m ≤ M ∧ Hid (m + (t.data.toList.take k).count 47 = M) ∧ w1 = wr)
          case atStart => exact ⟨0, M, Nat.zero_le _, Nat.sub_le _ _, rfl, rfl, rfl, Nat.le_refl _, Lib.hid (by simp), rfl⟩
          case round =>
            obtain ⟨k, m, hk, hkn, rfl, rfl, rfl, hmM, HC, rfl⟩ := hrel
            by_cases hlt : k < t.size
            · rcases bool_or ((t[k].toNat : Int) == 47) with k47 | k47
              · have HAT : Hid (t.data.toList[k]? = some 47) := Lib.hid (by rw [byte_at' t k hlt]; congr 1; exact byte_eq (b := 47) k47)
                cases m with
                | zero =>
                  have hpre : (t.extract 0 k).size ≤ 4294967296 := by simp; omega
                  have MT := Lib.hid (match_any v (t.extract 0 k) w1 HG1.out hv4 hpre)
                  go_wp2_with fail
                  refine MT.out.mono ?_
                  rintro e w5 ⟨b, err, rfl, hmr, hb⟩
                  rw [HV.out, extract_take] at hmr
                  have OK := Lib.hid (okP_at HP.out SP.out (k := k) (by rw [size_len]; exact hk) (.inr HAT.out) (by have := HC.out; rw [HM.out]; omega) HNE.out hmr)
                  have HG5 := Lib.hid (HG1.out.below hb)
                  have HB5 := Lib.hid (below_tr HB1.out hb)
                  clear hb hmr
                  cases b
                  · have N : Hid (PI g0.data.toList t.data.toList y.data.toList) := Lib.hid (HP.out.next SP.out (fun hc h => by have := (OK.out hc).2 h; cases this))
                    go_wp2
                    go_roundg y.size
                    case rel => exact ⟨y, Nat.le_refl _, rfl, by omega, HB5, HG5, N⟩
                    case measure => omega
                  · have R : Hid (MpR g0.data.toList t.data.toList true) := Lib.hid (HP.out.yes SP.out (fun hc => (OK.out hc).1 rfl))
                    go_wp2
                    go_ret
                    exact ⟨true, rfl, R.out, HB5.out⟩
                | succ m =>
                  have em : (((m + 1 : Nat) : Int) == 0) = false := beq_eq_false_iff_ne.2 (by omega)
                  have HC2 : Hid (m + (t.data.toList.take (k + 1)).count 47 = M) := Lib.hid (by
                    have h := HC.out
                    have e := HAT.out
                    rw [byte_at' t k hlt] at e; injection e with e
                    rw [take_snoc t k hlt, List.count_append, e]
                    have : List.count (47 : UInt8) [47] = 1 := rfl
                    omega)
                  go_wp2
                  go_roundg (t.size - (k + 1))
                  case rel => exact ⟨k + 1, m, by omega, Nat.le_refl _, by first | rfl | (congr 1; omega) | go_num, rfl, by go_num, by omega, HC2, rfl⟩
                  case measure => omega
              · have HC2 : Hid (m + (t.data.toList.take (k + 1)).count 47 = M) := Lib.hid (by
                  have h := HC.out
                  rw [take_snoc t k hlt, List.count_append]
                  have e : t[k] ≠ 47 := byte_ne (b := 47) k47
                  have : List.count (47 : UInt8) [t[k]] = 0 := List.count_eq_zero.2 (by simpa using fun h => e h.symm)
                  omega)
                go_wp2
                go_roundg (t.size - (k + 1))
                case rel => exact ⟨k + 1, m, by omega, Nat.le_refl _, rfl, rfl, by go_num, by omega, HC2, rfl⟩
                case measure => omega
            · have hke : t.data.toList.take k = t.data.toList := take_all t k (by omega)
              by_cases hm0 : 0 < m
              · have N : Hid (PI g0.data.toList t.data.toList y.data.toList) := Lib.hid (HP.out.next SP.out (fun _ => okP_few (by have := HC.out; rw [hke] at this; rw [HM.out]; omega)))
                clear hke
                go_wp2
                go_roundg y.size
                case rel => exact ⟨y, Nat.le_refl _, rfl, by omega, HB1, HG1, N⟩
                case measure => omega
              · have hm0' : m ≤ 0 := by omega
                have MT := Lib.hid (match_any v t w1 HG1.out hv4 ht)
                have HK := Lib.hid hke
                clear hke hm0
                go_wp2_with fail
                refine MT.out.mono ?_
                rintro e w5 ⟨b, err, rfl, hmr, hb⟩
                rw [HV.out, ← HK.out] at hmr
                have OK := Lib.hid (okP_at HP.out SP.out (k := k) (by rw [size_len]; exact hk) (.inl (by rw [size_len]; omega)) (by have := HC.out; rw [HM.out]; omega) HNE.out hmr)
                have HG5 := Lib.hid (HG1.out.below hb)
                have HB5 := Lib.hid (below_tr HB1.out hb)
                clear hb hmr
                cases b
                · have N : Hid (PI g0.data.toList t.data.toList y.data.toList) := Lib.hid (HP.out.next SP.out (fun hc h => by have := (OK.out hc).2 h; cases this))
                  go_wp2
                  go_roundg y.size
                  case rel => exact ⟨y, Nat.le_refl _, rfl, by omega, HB5, HG5, N⟩
                  case measure => omega
                · have R : Hid (MpR g0.data.toList t.data.toList true) := Lib.hid (HP.out.yes SP.out (fun hc => (OK.out hc).1 rfl))
                  go_wp2
                  go_ret
                  exact ⟨true, rfl, R.out, HB5.out⟩

set_option maxHeartbeats 1000000 in
theorem implmpp_any (g0 t : ByteArray) (w : World) (hG : Glo w) (hg : g0.size ≤ 4294967296) (ht : t.size ≤ 4294967296) :
    Calls Tryd.prog 6 #[.string g0, .string t] w (MppE g0.data.toList t.data.toList w) := by
  have M := Lib.hid (mpp_any g0 t w hG hg ht)
  go_enter Tryd.func6, Tryd.ntmps6
  go_wp2_with fail
  refine M.out.mono ?_
  rintro e w1 ⟨b, rfl, hR, hb⟩
  have R := Lib.hid hR
  have HB := Lib.hid hb
  clear hR hb
  go_wp2
  go_ret
  exact ⟨b, rfl, R.out, HB.out⟩
end Go.Proofs.YtdinaphcglmhoaaDoor
