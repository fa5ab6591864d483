/-
  The walk of laws.FnSortTwice over whatever comparison of versions.
-/
import Derived.Test.YtdinaphcglmhoaaFtP
import Derived.Test.YtdinaphcglmhoaaFsW
namespace Go.Proofs.Ytdinaphcglmhoaa
open Go.RowKit
set_option linter.unusedVariables false

set_option maxRecDepth 100000 in
set_option maxHeartbeats 16000000 in
theorem fnTwice_any (vC : Bs → Bs → Int) (hF : ∀ a b, vC a b = 0 → vC b a = 0) (hC : CmpK vC) (hS : SortT vC) (l : List PV) (b o cap : Nat) (t : Int) (w : World) (hin : PvAt w b o l) (hl : l.length ≤ cap ∧ cap ≤ maxLen) (hs : ∀ x ∈ l, x.1.size ≤ maxLen ∧ x.2.size ≤ maxLen) (hne : l ≠ []) (ht : 0 ≤ t ∧ t ≤ 255) :
    Calls Try.prog 11 #[.slice (some ⟨b, o, none⟩) l.length cap, .int .u8 t] w fun e w' => e = .returned (.bool true) ∧ Below w.heap.size w w' := by
  have hlm : l.length ≤ maxLen := Nat.le_trans hl.1 hl.2
  have Z := Lib.hid (zzFits1_any l b o cap w hin hlm hs)
  have HIN := Lib.hid hin.2
  have hbw := hin.1
  have hlc := hl.1
  have hcm := hl.2
  have HC := Lib.hid hC
  have HS := Lib.hid hS
  have HF := Lib.hid hF
  have h0 : 0 < l.length := List.length_pos_iff.2 hne
  have ht0 := ht.1
  have ht1 := ht.2
  unfold maxLen at hlm hcm
  clear hin hl hC hS hF hs hne ht
  cases hz : (decide (l.length ≤ 2147483647) && l.all fits1) with
  | false =>
    rw [hz] at Z
    go_enter Try.func11, Try.ntmps11
    go_wp2_with fail
    refine Z.out.mono ?_
    rintro e w' ⟨rfl, hb⟩
    go_wp2
    go_ret
    exact ⟨rfl, hb.out⟩
  | true =>
    rw [hz] at Z
    have hfit := Lib.hid (fits_all (by rw [Bool.and_eq_true] at hz; exact hz.2))
    clear hz
    by_cases h40 : l.length ≤ 40
    · have mk := fun w => run_makeMap (P := Try.prog) 51 w
      go_enter Try.func11, Try.ntmps11
      go_wp2_with fail
      refine Z.out.mono ?_
      rintro e w0 ⟨rfl, hb0⟩
      have hA : decide ((40 : Int) < (l.length : Int)) = false := by simp; omega
      have hB : ((l.length : Int) == 0) = false := beq_eq_false_iff_ne.2 (by omega)
      obtain ⟨kt, hkt, hkl⟩ : ∃ kt : Nat, t % (l.length : Int) = (kt : Int) ∧ kt < l.length := by
        have h1 := Int.emod_nonneg t (show (l.length : Int) ≠ 0 by omega)
        have h2 := Int.emod_lt_of_pos t (show (0 : Int) < (l.length : Int) by omega)
        exact ⟨(t % (l.length : Int)).toNat, by omega, by omega⟩
      have hkt := Lib.hid hkt
      go_wp2
      rw [hkt.out]
      clear hA hB mk hkt
      have B0 := Lib.hid (below_al (Below.refl w0.heap.size w0) (.map #[] 0))
      have S0 := Lib.hid (SeenN.made w0)
      have IN := Lib.hid (fun (s : ByteArray) (w : World) (h : s.size ≤ maxLen) => in_any s 47 w h)
      go_loopw [33] (fun i wr => ∃ k : Nat, k ≤ l.length ∧ i = .int .i64 k ∧ Hid (PartN vC (l.take k)) ∧ Hid (SeenN wr w0.heap.size k) ∧ Hid (Below w0.heap.size w0 wr)) (fun i _ => l.length - (intOf i).toNat)
      case atStart => exact ⟨0, Nat.zero_le _, rfl, Lib.hid PartN.zero, S0, B0⟩
      case round =>
        obtain ⟨k, hk, rfl, hP, hS, hb⟩ := hrel
        by_cases hlt : k < l.length
        · have hc := HIN.out k hlt
          have hbt := Lib.hid (below_trans hb0.out hb.out)
          obtain ⟨p0, v0, c0, c1, e1, m1, m2⟩ : ∃ p0 v0, wr.cell? ⟨b, o + k * 2, none⟩ = some (.string p0) ∧ wr.cell? ⟨b, o + k * 2 + 1, none⟩ = some (.string v0) ∧ Hid (l[k] = (p0, v0)) ∧ p0.size ≤ 2147483647 ∧ v0.size ≤ 2147483647 :=
            ⟨l[k].1, l[k].2, (hbt.out.cell (p := ⟨b, o + k * 2, none⟩) hbw).trans hc.1, (hbt.out.cell (p := ⟨b, o + k * 2 + 1, none⟩) hbw).trans hc.2, Lib.hid rfl, (hfit.out _ (List.getElem_mem _)).1, (hfit.out _ (List.getElem_mem _)).2⟩
          clear hc
          have BX := Lib.hid (boxed wr 24 p0 v0)
          have HBA := Lib.hid (below_al hb.out (.cells #[.string p0, .string v0] 24))
          have SA : Hid (SeenN (wr.alloc (.cells #[.string p0, .string v0] 24)) w0.heap.size k) := Lib.hid (hS.out.below (below_al (Below.refl _ _) _))
          have hsz : SzV (p0, v0) := szV_of (x := (p0, v0)) ⟨m1, m2⟩
          obtain ⟨s, hlk⟩ := SA.out.look hsz
          simp only [vvV] at hlk
          have INA := Lib.hid (fun w => IN.out v0 w (by unfold maxLen; omega))
          cases s with
          | true =>
            clear hsz
            have FB := Lib.hid (below_trans hb0.out HBA.out)
            go_wp2
            go_ret
            exact ⟨rfl, FB.out⟩
          | false =>
            cases hst : inB v0.data.toList 47 with
            | true =>
              rw [hst] at INA
              clear hsz
              have FB := Lib.hid (below_trans hb0.out HBA.out)
              go_wp2_with (go_at_call 26; refine (INA.out _).mono ?_; rintro e w' ⟨rfl, rfl⟩)
              go_ret
              exact ⟨rfl, FB.out⟩
            | false =>
              rw [hst] at INA
              obtain ⟨u, hup, SU, hgu⟩ := SA.out.put (by unfold maxLen; omega) hsz
              simp only [vvV] at hup
              have SU := Lib.hid SU
              have HBU : Hid (Below w0.heap.size w0 u) := Lib.hid (HBA.out.grown hgu (by have := hb.out.size; simp; omega) (fun j hj => by cases hj; exact Nat.le_refl _))
              have hAM : wr.heap.size ≠ w0.heap.size := by have := hS.out.lt; omega
              have A0 : u.cell? ⟨wr.heap.size, 0, none⟩ = some (.string p0) := (World.cell?_of_block (a := ⟨wr.heap.size, 0, none⟩) (hgu.block _ (by simp) (by simpa using hAM))).trans BX.out.1
              have A1 : u.cell? ⟨wr.heap.size, 1, none⟩ = some (.string v0) := (World.cell?_of_block (a := ⟨wr.heap.size, 1, none⟩) (hgu.block _ (by simp) (by simpa using hAM))).trans BX.out.2
              have hA : Hid (wr.heap.size < u.heap.size) := Lib.hid (by have := hgu.size; simp at this; omega)
              clear hsz hgu hAM
              go_wp2_with (go_at_call 26; refine (INA.out _).mono ?_; rintro e w' ⟨rfl, rfl⟩)
              clear hlk hup INA SA HBA BX c0 c1 S0 B0 hS hb hbt
              generalize wr.heap.size = A at *
              go_loopw [52] (fun i wr => ∃ j : Nat, j ≤ k ∧ i = .int .i64 j ∧ Hid (OkToQ vC l (p0, v0) j) ∧ Hid (Below u.heap.size u wr)) (fun i _ => k - (intOf i).toNat)
              case atStart => exact ⟨0, Nat.zero_le _, rfl, Lib.hid OkToQ.zero, Lib.hid (Below.refl _ _)⟩
              case round =>
                obtain ⟨j, hj, rfl, hO, hb⟩ := hrel
                by_cases hjt : j < k
                · have hc := HIN.out j (by omega)
                  have hbt := Lib.hid (below_trans hb0.out (below_trans HBU.out hb.out))
                  obtain ⟨p1, v1, c0, c1, e2, k1, k2⟩ : ∃ p1 v1, wr.cell? ⟨b, o + j * 2, none⟩ = some (.string p1) ∧ wr.cell? ⟨b, o + j * 2 + 1, none⟩ = some (.string v1) ∧ Hid (l[j]'(by omega) = (p1, v1)) ∧ p1.size ≤ 2147483647 ∧ v1.size ≤ 2147483647 :=
                    ⟨(l[j]'(by omega)).1, (l[j]'(by omega)).2, (hbt.out.cell (p := ⟨b, o + j * 2, none⟩) hbw).trans hc.1, (hbt.out.cell (p := ⟨b, o + j * 2 + 1, none⟩) hbw).trans hc.2, Lib.hid rfl, (hfit.out _ (List.getElem_mem _)).1, (hfit.out _ (List.getElem_mem _)).2⟩
                  clear hc
                  obtain ⟨b0, b1⟩ := boxed wr 24 p1 v1
                  have a0 : (wr.alloc (.cells #[.string p1, .string v1] 24)).cell? ⟨A, 0, none⟩ = some (.string p0) := ((below_al hb.out _).cell (p := ⟨A, 0, none⟩) hA.out).trans A0
                  have a1 : (wr.alloc (.cells #[.string p1, .string v1] 24)).cell? ⟨A, 1, none⟩ = some (.string v0) := ((below_al hb.out _).cell (p := ⟨A, 1, none⟩) hA.out).trans A1
                  have HBA := Lib.hid (below_al hb.out (.cells #[.string p1, .string v1] 24))
                  have STEP : Hid (OkQ vC (p0, v0) (p1, v1) → OkToQ vC l (p0, v0) (j + 1)) := Lib.hid (fun h => hO.out.step (by omega) (by rw [e2.out]; exact h))
                  clear hb hbt
                  cases hpq : (p0.toList == p1.toList) with
                  | false =>
                    have O1 := Lib.hid (STEP.out (fun h => absurd h (txt_ne hpq)))
                    go_wp2
                    go_roundw
                    case rel => exact ⟨j + 1, by omega, by go_num, O1, HBA⟩
                    case measure => simp [intOf]; omega
                  | true =>
                    have CC := Lib.hid (fun w => HC.out v0 v1 w m2 k2)
                    have STEP2 : Hid (vC v0.data.toList v1.data.toList ≠ 0 → OkToQ vC l (p0, v0) (j + 1)) := Lib.hid (fun h => STEP.out (fun _ => h))
                    generalize vC v0.data.toList v1.data.toList = c at CC STEP2
                    go_wp2_with fail
                    refine (CC.out _).mono ?_
                    rintro e w2 ⟨rfl, hb3⟩
                    have F3 := Lib.hid (below_trans HBA.out hb3)
                    have F2 := Lib.hid (below_trans hb0.out (below_trans HBU.out F3.out))
                    clear hb3 HBA
                    by_cases hc0 : c = 0
                    · subst hc0
                      go_wp2
                      go_ret
                      exact ⟨rfl, F2.out⟩
                    · have t0 : (c == 0) = false := beq_eq_false_iff_ne.2 hc0
                      have O1 := Lib.hid (STEP2.out hc0)
                      go_wp2
                      go_roundw
                      case rel => exact ⟨j + 1, by omega, by go_num, O1, F3⟩
                      case measure => simp [intOf]; omega
                · obtain rfl : j = k := by omega
                  have P1 : Hid (PartN vC (l.take (j + 1))) := Lib.hid (hP.out.step HF.out hlt (by rw [e1.out]; exact no47_of hst) (by rw [e1.out]; exact hO.out))
                  have S1 := Lib.hid (SU.out.below hb.out)
                  have B1 := Lib.hid (below_trans HBU.out hb.out)
                  go_wp2
                  go_roundw
                  case rel => exact ⟨j + 1, by omega, by go_num, P1, S1, B1⟩
                  case measure => simp [intOf]; omega
        · obtain rfl : k = l.length := by omega
          have hPl : PartN vC l := by have := hP.out; rwa [List.take_of_length_le (Nat.le_refl _)] at this
          obtain ⟨S, hU, hST⟩ := HS.out l hPl (fun x hx => hfit.out x hx) h40
          have hU := Lib.hid hU
          have hST := Lib.hid hST
          have hbt := Lib.hid (below_trans hb0.out hb.out)
          have PB := Lib.hid (PvAt.below ⟨hbw, HIN.out⟩ hbt.out hbw)
          clear hPl hP hS hb HS HF HC S0 B0 IN
          go_upto_region 20 with fail
          go_cut [11, 12] (fun s11 s12 wx => ∃ (l1 : List PV) (g1 q1 g2 q2 : Nat), s11 = .slice (some ⟨g1, 0, none⟩) l.length q1 ∧ s12 = .slice (some ⟨g2, 0, none⟩) l.length q2 ∧ Hid (l.Perm l1) ∧ Hid (PvAt wx g1 0 l1) ∧ Hid (PvAt wx g2 0 l1) ∧ Hid (Below w.heap.size w wx))
          case first =>
            have i1 : (0 : Int) ≤ (kt : Int) := by omega
            have i2 : (kt : Int) ≤ (l.length : Int) := by omega
            have i3 : (l.length : Int) ≤ (cap : Int) := by omega
            have i4 : (kt : Int) ≤ (cap : Int) := by omega
            have PD := Lib.hid (pv_drop PB.out kt)
            have PT := Lib.hid (pv_take PB.out kt)
            have hdl : Hid ((l.drop kt).length = l.length - kt) := Lib.hid (by simp)
            have htl : Hid ((l.take kt).length = kt) := Lib.hid (by simp; omega)
            have hpm : Hid (l.Perm (l.drop kt ++ l.take kt)) := Lib.hid (by
              have := (List.perm_append_comm (l₁ := l.take kt) (l₂ := l.drop kt)); rwa [List.take_append_drop] at this)
            have hn0 : Hid (l.length - kt = 0 + (l.length - kt)) := Lib.hid (by omega)
            have hn1 : Hid (l.length = (l.length - kt) + kt) := Lib.hid (by omega)
            have hn2 : Hid (0 < l.length - kt ∧ l.length - kt ≤ 100 ∧ 0 < l.length ∧ l.length ≤ 100) := Lib.hid ⟨by omega, by omega, by omega, by omega⟩
            go_region_held3 (fun _ => True) (trivial)
              (first
                | (go_at_call_of 24 (Value.slice (some ⟨b, o, none⟩) l.length cap); refine (hST.out l (List.Perm.refl _) b o cap _ (by first | exact PB.out | exact PvAt.below PB.out (below_al ((Below.refl _ _).drew) _) PB.out.1)).mono ?_; rintro e wa ⟨l1, g1, q1, rfl, hp1, hs1, hr1, hba, hga⟩)
                | (go_at_call 24; refine (hST.out (l.drop kt ++ l.take kt) hpm.out gy 0 cy _ rY.out.fin).mono ?_; rintro e wd ⟨l2, g2, q2, rfl, hp2, hs2, hr2, hbd, hgd⟩)
                | (have rA := Lib.hid (r20A hba.out hr1.out hga.out)
                   refine step_app (by rfl) _ _ (by rfl) (cap - kt) (rA.out.app PD.out hdl.out hn0.out hn2.out.1 hn2.out.2.1) (by rfl) (by rfl) ?_
                   intro gx cx wx hx
                   have rX := Lib.hid (rA.out.step hx)
                   clear hx)
                | (have rA := Lib.hid (r20B hba.out hr1.out)
                   refine step_app (by rfl) _ _ (by rfl) (cap - kt) (rA.out.app PD.out hdl.out hn0.out hn2.out.1 hn2.out.2.1) (by rfl) (by rfl) ?_
                   intro gx cx wx hx
                   have rX := Lib.hid (rA.out.step hx)
                   clear hx)
                | (refine step_app (by rfl) _ _ (by rfl) cap (rX.out.app PT.out htl.out hn1.out hn2.out.2.2.1 hn2.out.2.2.2) (by rfl) (by rfl) ?_
                   intro gy cy wy hy
                   have rY := Lib.hid (rX.out.step hy)
                   clear hy))
            all_goals have R1 := Lib.hid (rY.out.row.below hbd.out rY.out.row.1)
            all_goals have FB := Lib.hid (below_trans hbt.out (below_trans rY.out.below hbd.out))
            all_goals have E := hU.out l2 l1 hp2.out hp1.out hs2.out hs1.out
            all_goals subst E
            all_goals clear hbd hba rA rX rY i1 i2 i3 i4 PD PT hdl htl hpm hn0 hn1 hn2 hr1 hs1 hs2 hga hgd
            all_goals (go_wp2_with fail; go_meet; exact ⟨_, g1, q1, g2, q2, rfl, rfl, hp1, R1, hr2, FB⟩)
          case rest =>
            obtain ⟨l1, g1, q1, g2, q2, rfl, rfl, hp, hr1, hr2, hbw2⟩ := hcut
            have hlen := Lib.hid hp.out.length_eq
            clear hU hST PB hbt
            go_wp2
            go_loopw [97] (fun i wr => ∃ k : Nat, k ≤ l.length ∧ i = .int .i64 k ∧ Hid (PvAt wr g1 0 l1) ∧ Hid (PvAt wr g2 0 l1) ∧ Hid (Below w.heap.size w wr)) (fun i _ => l.length - (intOf i).toNat)
            case atStart => exact ⟨0, Nat.zero_le _, rfl, hr1, hr2, hbw2⟩
            case round =>
              clear hr1 hr2 hbw2
              obtain ⟨k, hk, rfl, hr1, hr2, hb⟩ := hrel
              by_cases hlt : k < l.length
              · have hltm : k < l1.length := by have := hlen.out; omega
                obtain ⟨x0, x1, c0, c1, d0, d1⟩ : ∃ x0 x1, wr.cell? ⟨g1, k * 2, none⟩ = some (.string x0) ∧ wr.cell? ⟨g1, k * 2 + 1, none⟩ = some (.string x1) ∧ wr.cell? ⟨g2, k * 2, none⟩ = some (.string x0) ∧ wr.cell? ⟨g2, k * 2 + 1, none⟩ = some (.string x1) := by
                  have a := hr1.out.2 k hltm
                  have b := hr2.out.2 k hltm
                  rw [Nat.zero_add] at a b
                  exact ⟨_, _, a.1, a.2, b.1, b.2⟩
                have ep := txt_self x0
                have eX := txt_self x1
                clear hltm
                go_wp2
                go_quiet (fail)
                go_wp2
                go_roundw
                case rel => exact ⟨k + 1, by omega, by go_num, Lib.hid (pv_dq hr1.out _), Lib.hid (pv_dq hr2.out _), Lib.hid (below_dq' hb.out _)⟩
                case measure => simp [intOf]; omega
              · go_wp2
                go_ret
                exact ⟨rfl, hb.out⟩
    · go_enter Try.func11, Try.ntmps11
      go_wp2_with fail
      refine Z.out.mono ?_
      rintro e w0 ⟨rfl, hb0⟩
      go_wp2
      go_ret
      exact ⟨rfl, hb0.out⟩
end Go.Proofs.Ytdinaphcglmhoaa
