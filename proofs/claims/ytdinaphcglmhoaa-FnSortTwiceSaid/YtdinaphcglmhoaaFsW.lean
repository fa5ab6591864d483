/-
  The walk of laws.FnSort over whatever comparison of versions.
-/
import Derived.Test.YtdinaphcglmhoaaFsP
import Derived.Deep.RegionHeld3
import Derived.Deep.DeepCutAuto
import Derived.BigQuiet
import Derived.RegionTactic
import Derived.IntWalk
import Derived.Carry
import Derived.Maps.RangeWalk
namespace Go.Proofs.Ytdinaphcglmhoaa
open Go.RowKit
set_option linter.unusedVariables false

theorem boxed (w : World) (t : TypeId) (p v : ByteArray) : (w.alloc (.cells #[.string p, .string v] t)).cell? ⟨w.heap.size, 0, none⟩ = some (.string p) ∧ (w.alloc (.cells #[.string p, .string v] t)).cell? ⟨w.heap.size, 1, none⟩ = some (.string v) :=
  ⟨cell_of_row _ _ 0 _ t (0, 0) (heap_alloc_new w _), cell_of_row _ _ 1 _ t (0, 0) (heap_alloc_new w _)⟩

theorem boxes2 (w : World) (t : TypeId) (p x q y : ByteArray) (nx ny : Nat) (hx : nx = w.heap.size) (hy : ny = w.heap.size + 1) :
    ((w.alloc (.cells #[.string p, .string x] t)).alloc (.cells #[.string q, .string y] t)).drew.cell? ⟨nx, 0, none⟩ = some (.string p) ∧ ((w.alloc (.cells #[.string p, .string x] t)).alloc (.cells #[.string q, .string y] t)).drew.cell? ⟨nx, 1, none⟩ = some (.string x) ∧
    ((w.alloc (.cells #[.string p, .string x] t)).alloc (.cells #[.string q, .string y] t)).drew.cell? ⟨ny, 0, none⟩ = some (.string q) ∧ ((w.alloc (.cells #[.string p, .string x] t)).alloc (.cells #[.string q, .string y] t)).drew.cell? ⟨ny, 1, none⟩ = some (.string y) := by
  subst hx; subst hy
  have a := boxed w t p x
  have b := boxed (w.alloc (.cells #[.string p, .string x] t)) t q y
  have e : (w.alloc (.cells #[.string p, .string x] t)).heap.size = w.heap.size + 1 := by simp
  rw [e] at b
  have f : ∀ j v, (w.alloc (.cells #[.string p, .string x] t)).cell? ⟨w.heap.size, j, none⟩ = some v → ((w.alloc (.cells #[.string p, .string x] t)).alloc (.cells #[.string q, .string y] t)).cell? ⟨w.heap.size, j, none⟩ = some v := fun j v h =>
    ((below_al (Below.refl _ _) _).cell (p := ⟨w.heap.size, j, none⟩) (by simp)).trans h
  exact ⟨f _ _ a.1, f _ _ a.2, b.1, b.2⟩

set_option maxRecDepth 100000 in
set_option maxHeartbeats 16000000 in
theorem fnSort_any (vC : Bs → Bs → Int) (hF : ∀ a b, vC a b = 0 → vC b a = 0) (hC : CmpK vC) (hS : SortK vC) (l : List PV) (b o cap : Nat) (w : World) (hin : PvAt w b o l) (hl : l.length ≤ cap ∧ cap ≤ maxLen) (hs : ∀ x ∈ l, x.1.size ≤ maxLen ∧ x.2.size ≤ maxLen) :
    Calls Try.prog 9 #[.slice (some ⟨b, o, none⟩) l.length cap] w fun e w' => e = .returned (.bool true) ∧ Below w.heap.size w w' := by
  have hlm : l.length ≤ maxLen := Nat.le_trans hl.1 hl.2
  have Z := Lib.hid (zzFits1_any l b o cap w hin hlm hs)
  have HIN := Lib.hid hin.2
  have hbw := hin.1
  have hlc := hl.1
  have hcm := hl.2
  have HC := Lib.hid hC
  have HS := Lib.hid hS
  have HF := Lib.hid hF
  have CUT := Lib.hid cut47
  unfold maxLen at hlm hcm
  clear hin hl hC hS hF hs
  cases hz : (decide (l.length ≤ 2147483647) && l.all fits1) with
  | false =>
    rw [hz] at Z
    go_enter Try.func9, Try.ntmps9
    go_wp2_with fail
    refine Z.out.mono ?_
    rintro e w' ⟨rfl, hb⟩
    go_wp2
    go_ret
    exact ⟨rfl, hb.out⟩
  | true =>
    rw [hz] at Z
    have hfit := Lib.hid (fits_all (by rw [Bool.and_eq_true] at hz; exact hz.2))
    clear hz
    by_cases h40 : l.length ≤ 40
    · go_enter Try.func9, Try.ntmps9
      go_wp2_with fail
      refine Z.out.mono ?_
      rintro e w0 ⟨rfl, hb0⟩
      go_wp2
      go_loopw [28] (fun i wr => ∃ k : Nat, k ≤ l.length ∧ i = .int .i64 k ∧ Hid (PartG vC (l.take k)) ∧ Hid (Below w.heap.size w wr)) (fun i _ => l.length - (intOf i).toNat)
      case atStart => exact ⟨0, Nat.zero_le _, rfl, Lib.hid PartG.zero, hb0⟩
      case round =>
        obtain ⟨k, hk, rfl, hP, hb⟩ := hrel
        by_cases hlt : k < l.length
        · have hc := HIN.out k hlt
          obtain ⟨p0, v0, c0, c1, e1, m1, m2⟩ : ∃ p0 v0, wr.cell? ⟨b, o + k * 2, none⟩ = some (.string p0) ∧ wr.cell? ⟨b, o + k * 2 + 1, none⟩ = some (.string v0) ∧ Hid (l[k] = (p0, v0)) ∧ p0.size ≤ 2147483647 ∧ v0.size ≤ 2147483647 :=
            ⟨l[k].1, l[k].2, (hb.out.cell (p := ⟨b, o + k * 2, none⟩) hbw).trans hc.1, (hb.out.cell (p := ⟨b, o + k * 2 + 1, none⟩) hbw).trans hc.2, Lib.hid rfl, (hfit.out _ (List.getElem_mem _)).1, (hfit.out _ (List.getElem_mem _)).2⟩
          clear hc
          have BX := Lib.hid (boxed wr 24 p0 v0)
          have HBA := Lib.hid (below_al hb.out (.cells #[.string p0, .string v0] 24))
          go_wp2_with fail
          refine (CUT.out v0 _ m2).mono ?_
          rintro e w1 ⟨g, n, cp, rfl, hn0, hn1, hbc, hgg, hgl, hgc⟩
          have A0 : w1.cell? ⟨wr.heap.size, 0, none⟩ = some (.string p0) := (hbc.out.cell (p := ⟨wr.heap.size, 0, none⟩) (by simp)).trans BX.out.1
          have A1 : w1.cell? ⟨wr.heap.size, 1, none⟩ = some (.string v0) := (hbc.out.cell (p := ⟨wr.heap.size, 1, none⟩) (by simp)).trans BX.out.2
          have HB1 := Lib.hid (below_trans HBA.out hbc.out)
          have hA : Hid (wr.heap.size < w1.heap.size) := Lib.hid (by have := hbc.out.size; simp at this; omega)
          clear hbc HBA BX hgg hgl hgc c0 c1 hb
          generalize wr.heap.size = A at *
          by_cases hn : n ≤ 2
          · go_wp2
            go_loopw [42] (fun i wr => ∃ j : Nat, j ≤ k ∧ i = .int .i64 j ∧ Hid (OkTo vC l (p0, v0) j) ∧ Hid (Below w1.heap.size w1 wr)) (fun i _ => k - (intOf i).toNat)
            case atStart => exact ⟨0, Nat.zero_le _, rfl, Lib.hid OkTo.zero, Lib.hid (Below.refl _ _)⟩
            case round =>
              obtain ⟨j, hj, rfl, hO, hb⟩ := hrel
              by_cases hjt : j < k
              · have hc := HIN.out j (by omega)
                obtain ⟨p1, v1, c0, c1, e2, k1, k2⟩ : ∃ p1 v1, wr.cell? ⟨b, o + j * 2, none⟩ = some (.string p1) ∧ wr.cell? ⟨b, o + j * 2 + 1, none⟩ = some (.string v1) ∧ Hid (l[j]'(by omega) = (p1, v1)) ∧ p1.size ≤ 2147483647 ∧ v1.size ≤ 2147483647 :=
                  ⟨(l[j]'(by omega)).1, (l[j]'(by omega)).2, ((below_trans HB1.out hb.out).cell (p := ⟨b, o + j * 2, none⟩) hbw).trans hc.1, ((below_trans HB1.out hb.out).cell (p := ⟨b, o + j * 2 + 1, none⟩) hbw).trans hc.2, Lib.hid rfl, (hfit.out _ (List.getElem_mem _)).1, (hfit.out _ (List.getElem_mem _)).2⟩
                clear hc
                have BX := Lib.hid (boxed wr 24 p1 v1)
                have a0 : (wr.alloc (.cells #[.string p1, .string v1] 24)).cell? ⟨A, 0, none⟩ = some (.string p0) := ((below_al hb.out _).cell (p := ⟨A, 0, none⟩) hA.out).trans A0
                have a1 : (wr.alloc (.cells #[.string p1, .string v1] 24)).cell? ⟨A, 1, none⟩ = some (.string v0) := ((below_al hb.out _).cell (p := ⟨A, 1, none⟩) hA.out).trans A1
                have HBA := Lib.hid (below_al hb.out (.cells #[.string p1, .string v1] 24))
                have b0 := BX.out.1
                have b1 := BX.out.2
                have hB : Hid (w1.heap.size ≤ wr.heap.size) := Lib.hid hb.out.size
                go_upto_region 13 with fail
                generalize wr.alloc (.cells #[.string p1, .string v1] 24) = W at *
                generalize wr.heap.size = B at *
                clear c0 c1 BX
                go_cut [7, 8] (fun s7 s8 wx => s7 = .string (HdT v0) ∧ s8 = .string (HdT v1) ∧ Hid (Below w1.heap.size w1 wx) ∧ wx.cell? ⟨A, 0, none⟩ = some (.string p0) ∧ wx.cell? ⟨B, 0, none⟩ = some (.string p1))
                case first =>
                  have hAW : Hid (A < W.heap.size ∧ B < W.heap.size) := Lib.hid ⟨World.block_lt_of_cell? _ _ a1, World.block_lt_of_cell? _ _ b1⟩
                  go_region_with (first
                      | (go_at_call_of 23 (Value.string v0); refine (CUT.out v0 _ m2).mono ?_; rintro e wc ⟨g1, n1, cp1, rfl, i1, j1, hbc, q1, l1, t1⟩; have u2 := (hbc.out.cell (p := ⟨B, 1, none⟩) hAW.out.2).trans b1)
                      | (go_at_call_of 23 (Value.string v1); refine (CUT.out v1 _ k2).mono ?_; rintro e wd ⟨g2, n2, cp2, rfl, i2, j2, hbd, q2, l2, t2⟩; have t3 := (hbd.out.cell (p := ⟨g1, 0, none⟩) l1.out).trans t1))
                  all_goals have F : Hid (Below w1.heap.size w1 wd) := Lib.hid (below_trans (below_trans HBA.out.drew hbc.out) hbd.out)
                  all_goals have F0 : Hid (wd.cell? ⟨A, 0, none⟩ = some (.string p0) ∧ wd.cell? ⟨B, 0, none⟩ = some (.string p1)) := Lib.hid ⟨((hbd.out.cell (p := ⟨A, 0, none⟩) (Nat.lt_of_lt_of_le hAW.out.1 hbc.out.size)).trans (hbc.out.cell (p := ⟨A, 0, none⟩) hAW.out.1)).trans a0, ((hbd.out.cell (p := ⟨B, 0, none⟩) (Nat.lt_of_lt_of_le hAW.out.2 hbc.out.size)).trans (hbc.out.cell (p := ⟨B, 0, none⟩) hAW.out.2)).trans b0⟩
                  all_goals clear hbc hbd t1 t2 t3 l1 l2 hAW HBA a0 b0 a1 b1 u2
                  all_goals (go_wp2_with fail; go_meet; exact ⟨rfl, rfl, F, F0.out.1, F0.out.2⟩)
                case rest =>
                  obtain ⟨rfl, rfl, hb2, d0, d1⟩ := hcut
                  clear a0 a1 b0 b1 HBA hb
                  have STEP : Hid (OkP vC (p0, v0) (p1, v1) → OkTo vC l (p0, v0) (j + 1)) := Lib.hid (fun h => hO.out.step (by omega) (by rw [e2.out]; exact h))
                  have OKN := hO
                  clear hO
                  cases hpq : (p0.toList == p1.toList) with
                  | false =>
                    have O1 := Lib.hid (STEP.out (fun h => absurd h (txt_ne hpq)))
                    go_wp2
                    go_roundw
                    case rel => exact ⟨j + 1, by omega, by go_num, O1, hb2⟩
                    case measure => simp [intOf]; omega
                  | true =>
                    cases hxy : ((HdT v0).toList == (HdT v1).toList) with
                    | true =>
                      have hxz : ((HdT v0).toList != (HdT v1).toList) = false := by rw [bne, hxy]; rfl
                      have O1 := Lib.hid (STEP.out (fun _ h => absurd (HdT_eq.1 (beq_iff_eq.1 hxy)) h))
                      go_wp2
                      go_roundw
                      case rel => exact ⟨j + 1, by omega, by go_num, O1, hb2⟩
                      case measure => simp [intOf]; omega
                    | false =>
                      have hxz : ((HdT v0).toList != (HdT v1).toList) = true := by rw [bne, hxy]; rfl
                      have CC := Lib.hid (fun w => HC.out.hd v0 v1 w m2 k2)
                      have STEP2 : Hid (vC (hdV v0.data.toList) (hdV v1.data.toList) ≠ 0 → OkTo vC l (p0, v0) (j + 1)) := Lib.hid (fun h => STEP.out (fun _ _ => h))
                      generalize vC (hdV v0.data.toList) (hdV v1.data.toList) = c at CC STEP2
                      have HB2 := Lib.hid (fun (w2 : World) (h : Below _ _ w2) => below_trans HB1.out (below_trans hb2.out h))
                      have HB3 := Lib.hid (fun (w2 : World) (h : Below _ _ w2) => below_trans hb2.out h)
                      go_wp2_with fail
                      refine (CC.out _).mono ?_
                      rintro e w2 ⟨rfl, hb3⟩
                      have F2 := Lib.hid (HB2.out _ hb3.out)
                      have F3 := Lib.hid (HB3.out _ hb3.out)
                      clear hb3 hb2
                      by_cases hc0 : c = 0
                      · subst hc0
                        go_wp2
                        go_ret
                        exact ⟨rfl, F2.out⟩
                      · have t0 : (c == 0) = false := beq_eq_false_iff_ne.2 hc0
                        have O1 := Lib.hid (STEP2.out hc0)
                        go_wp2
                        go_roundw
                        case rel => exact ⟨j + 1, by omega, by go_num, O1, F3⟩
                        case measure => simp [intOf]; omega
              · obtain rfl : j = k := by omega
                have P1 : Hid (PartG vC (l.take (j + 1))) := Lib.hid (hP.out.step HF.out hlt (by rw [e1.out]; exact hO.out))
                have B1 := Lib.hid (below_trans HB1.out hb.out)
                go_wp2
                go_roundw
                case rel => exact ⟨j + 1, by omega, by go_num, P1, B1⟩
                case measure => simp [intOf]; omega
          · go_wp2
            go_ret
            exact ⟨rfl, HB1.out⟩
        · obtain rfl : k = l.length := by omega
          have SS := Lib.hid (HS.out l (by have := hP.out; rwa [List.take_of_length_le (Nat.le_refl _)] at this) (fun x hx => hfit.out x hx) b o cap wr (PvAt.below ⟨hbw, HIN.out⟩ hb.out hbw) h40)
          clear hP HS HF
          go_wp2_with fail
          refine SS.out.mono ?_
          rintro e w1 ⟨l', g, cap', rfl, hp, hn, hpv, hb1⟩
          have HB1 := Lib.hid (below_trans hb.out hb1.out)
          have hlen := Lib.hid hp.out.length_eq
          have hbw1 : Hid (b < w1.heap.size) := Lib.hid (Nat.lt_of_lt_of_le hbw HB1.out.size)
          have HIN1 := Lib.hid (PvAt.below ⟨hbw, HIN.out⟩ HB1.out hbw).2
          clear hb hb1 hb0 SS
          have mk := fun w => run_makeMap (P := Try.prog) 43 w
          go_wp2
          go_loopw [84] (fun i wr => ∃ k : Nat, k ≤ l.length ∧ i = .int .i64 k ∧ Hid (CntN wr w1.heap.size (2 * k) ((l.map klV).take k) ((l'.map klV).take k)) ∧ Hid (Below w1.heap.size w1 wr)) (fun i _ => l.length - (intOf i).toNat)
          case atStart => exact ⟨0, Nat.zero_le _, rfl, Lib.hid (MapN.made w1), Lib.hid (below_al (Below.refl _ _) _)⟩
          case round =>
            obtain ⟨k, hk, rfl, hct, hb⟩ := hrel
            by_cases hlt : k < l.length
            · have hltm : k < l'.length := by have := hlen.out; omega
              obtain ⟨x0, x1, y0, y1, c0, c1, d0, d1, ex, ey, sx, sy⟩ : ∃ x0 x1 y0 y1, (∀ W', Below w1.heap.size w1 W' → W'.cell? ⟨b, o + k * 2, none⟩ = some (.string x0)) ∧ (∀ W', Below w1.heap.size w1 W' → W'.cell? ⟨b, o + k * 2 + 1, none⟩ = some (.string x1)) ∧ (∀ W', Below w1.heap.size w1 W' → W'.cell? ⟨g, k * 2, none⟩ = some (.string y0)) ∧ (∀ W', Below w1.heap.size w1 W' → W'.cell? ⟨g, k * 2 + 1, none⟩ = some (.string y1)) ∧ Hid (l[k] = (x0, x1)) ∧ Hid (l'[k] = (y0, y1)) ∧ Hid (SzV (x0, x1)) ∧ Hid (SzV (y0, y1)) := by
                refine ⟨l[k].1, l[k].2, l'[k].1, l'[k].2, fun W' h => (h.cell (p := ⟨b, o + k * 2, none⟩) hbw1.out).trans (HIN1.out k hlt).1, fun W' h => (h.cell (p := ⟨b, o + k * 2 + 1, none⟩) hbw1.out).trans (HIN1.out k hlt).2, fun W' h => (h.cell (p := ⟨g, k * 2, none⟩) hpv.out.1).trans ?_, fun W' h => (h.cell (p := ⟨g, k * 2 + 1, none⟩) hpv.out.1).trans ?_, Lib.hid rfl, Lib.hid rfl, Lib.hid ?_, Lib.hid ?_⟩
                · have := (hpv.out.2 k hltm).1; rwa [Nat.zero_add] at this
                · have := (hpv.out.2 k hltm).2; rwa [Nat.zero_add] at this
                · exact szV_of (hfit.out _ (List.getElem_mem hlt))
                · exact szV_of (hfit.out _ (hp.out.mem_iff.2 (List.getElem_mem hltm)))
              obtain ⟨c, c', st, st', u1, u2, v1, v2, ⟨e1, e2⟩, ⟨e3, e4⟩, U, V, B1, B2⟩ := cntRound hct.out hb.out (by omega) sx.out sy.out (by simp; omega) (by simp; omega)
              have C0 := c0 _ hb.out.drew
              have C1 := c1 _ hb.out.drew
              have D0 := d0 _ B1.drew
              have D1 := d1 _ B1.drew
              have NX : Hid (CntN v2 w1.heap.size (2 * (k + 1)) ((l.map klV).take (k + 1)) ((l'.map klV).take (k + 1))) := Lib.hid (by
                have := V.2.2.2.2.1
                rw [List.take_succ_eq_append_getElem (by simpa using hlt), List.take_succ_eq_append_getElem (by simpa using hltm), List.getElem_map, List.getElem_map, ex.out, ey.out]
                exact this)
              have NB := Lib.hid B2
              obtain ⟨U1, U2, U3, U4, -, -⟩ := U
              obtain ⟨V1, V2, V3, V4, -, -⟩ := V
              clear c0 c1 d0 d1 B1 B2 hct hb ex ey sx sy mk
              simp only [vvV] at U1 U2 U3 V1 V2 V3
              go_wp2
              go_region
              all_goals go_wp2
              all_goals go_region
              all_goals go_wp2
              all_goals go_roundw
              case rel => exact ⟨k + 1, by omega, by go_num, NX, NB⟩
              case measure => simp [intOf]; omega
            · obtain rfl : k = l.length := by omega
              have hct1 : CntN wr w1.heap.size (2 * l.length) (l.map klV) (l'.map klV) := by
                have := hct.out; rwa [List.take_of_length_le (by simp), List.take_of_length_le (by simp [hlen.out])] at this
              obtain ⟨D, hown, hD⟩ := hct1.zero (hp.out.map _)
              have hD := Lib.hid hD
              clear hct hct1 mk
              have hBr := Lib.hid (below_trans HB1.out hb.out)
              go_wp2_with (first | (at_range; refine wpList_range_own _ rfl _ 43 rfl 24 3 lawK Try.underlying43 _ w1.heap.size (2 * l.length) D rfl hown ?_; intro w2 hrg hg2 hs2) | go_in)
              go_frame
              have HB2 := Lib.hid (hb.out.grown hg2 hb.out.size (fun j hj => by cases hj))
              have hR := Lib.hid hb.out.size
              have HRG := Lib.hid hrg
              clear hrg hg2 hs2 hown hb hBr
              generalize wr.heap.size = R at *
              go_loopw [13] (fun n wr => ∃ left cnt, Hid (wr.ranges Try.prog 24 (plainElem Try.prog 3) w1.heap.size R (2 * l.length) D left cnt) ∧ Hid (Below w1.heap.size w1 wr)) (fun _ wr => wr.rangeLeft w1.heap.size R)
              case atStart => exact ⟨_, _, HRG, HB2⟩
              case round =>
                obtain ⟨left, cnt, hrg, hb⟩ := hrel
                go_wp2_with (first | (at_next; refine wpList_next_ranges _ rfl _ rfl 24 lawK (plainElem Try.prog 3) (fun v : Value => v) (Value.int .i64) (fun key kl _ => ⟨key, rfl⟩) elem_int w1.heap.size R (2 * l.length) D left cnt rfl hrg.out ?_ ?_) | go_in)
                · intro _ _
                  clear hrg HRG HB2
                  go_wp2
                  go_loopw [14] (fun i wr => ∃ m : Nat, i = .int .i64 ((m : Int) + 1) ∧ m ≤ 40 ∧ Hid (Below w1.heap.size w1 wr)) (fun i _ => l.length - (intOf i).toNat)
                  case atStart => exact ⟨0, rfl, by omega, hb⟩
                  case round =>
                    obtain ⟨m, rfl, hm, hb⟩ := hrel
                    by_cases hlt : m + 1 < l.length
                    · have hltm : m + 1 < l'.length := by have := hlen.out; omega
                      obtain ⟨p0, v0, p1, v1, c0, c1, d0, d1, ex, s0, s1⟩ : ∃ p0 v0 p1 v1, wr.cell? ⟨g, m * 2, none⟩ = some (.string p0) ∧ wr.cell? ⟨g, m * 2 + 1, none⟩ = some (.string v0) ∧ wr.cell? ⟨g, (m + 1) * 2, none⟩ = some (.string p1) ∧ wr.cell? ⟨g, (m + 1) * 2 + 1, none⟩ = some (.string v1) ∧ Hid (NextOk vC (p0, v0) (p1, v1)) ∧ v0.size ≤ 2147483647 ∧ v1.size ≤ 2147483647 := by
                        have q0 := hpv.out.2 m (by omega)
                        have q1 := hpv.out.2 (m + 1) hltm
                        rw [Nat.zero_add] at q0 q1
                        exact ⟨(l'[m]'(by omega)).1, (l'[m]'(by omega)).2, l'[m + 1].1, l'[m + 1].2, (hb.out.cell (p := ⟨g, m * 2, none⟩) hpv.out.1).trans q0.1, (hb.out.cell (p := ⟨g, m * 2 + 1, none⟩) hpv.out.1).trans q0.2, (hb.out.cell (p := ⟨g, (m + 1) * 2, none⟩) hpv.out.1).trans q1.1, (hb.out.cell (p := ⟨g, (m + 1) * 2 + 1, none⟩) hpv.out.1).trans q1.2, Lib.hid (hn.out m hltm), (hfit.out _ (hp.out.mem_iff.2 (List.getElem_mem _))).2, (hfit.out _ (hp.out.mem_iff.2 (List.getElem_mem _))).2⟩
                      clear hD
                      go_upto_region 36 with fail
                      have i1 : IntKind.i64.wrap ((m : Int) + 1 - 1) = (m : Int) := by rw [IntWalk.i64_in _ (by omega)]; omega
                      have i2 : IntKind.i64.wrap (m : Int) = (m : Int) := IntWalk.i64_in _ (by omega)
                      have i3 : (0 : Int) ≤ (m : Int) := by omega
                      have i4 : (m : Int) < (l.length : Int) := by omega
                      have i5 : (0 : Int) ≤ (m : Int) + 1 := by omega
                      have i6 : (m : Int) + 1 < (l.length : Int) := by omega
                      have i7 : ((m : Int) + 1).toNat = m + 1 := by omega
                      go_cut [15, 16] (fun s15 s16 wx => ∃ X Y : Nat, s15 = .pointer (some ⟨X, 0, none⟩) ∧ s16 = .pointer (some ⟨Y, 0, none⟩) ∧ Hid (Below w1.heap.size w1 wx) ∧ Hid (wx.cell? ⟨X, 0, none⟩ = some (.string p0) ∧ wx.cell? ⟨X, 1, none⟩ = some (.string v0) ∧ wx.cell? ⟨Y, 0, none⟩ = some (.string p1) ∧ wx.cell? ⟨Y, 1, none⟩ = some (.string v1)))
                      case first =>
                        go_region_held3 (fun w' => w'.cell? ⟨g, m * 2, none⟩ = some (.string p0) ∧ w'.cell? ⟨g, m * 2 + 1, none⟩ = some (.string v0) ∧ w'.cell? ⟨g, (m + 1) * 2, none⟩ = some (.string p1) ∧ w'.cell? ⟨g, (m + 1) * 2 + 1, none⟩ = some (.string v1)) (go_keep) (fail)
                        · go_wp2_with fail
                          go_meet
                          exact ⟨_, _, rfl, rfl, Lib.hid (below_al (below_al hb.out _) _).drew, Lib.hid (boxes2 wr _ p0 v0 p1 v1 _ _ rfl rfl)⟩
                        · go_wp2_with fail
                          go_meet
                          exact ⟨_, _, rfl, rfl, Lib.hid (below_al (below_al hb.out _) _).drew, Lib.hid (by have := boxes2 wr 24 p1 v1 p0 v0 _ _ rfl rfl; exact ⟨this.2.2.1, this.2.2.2, this.1, this.2.1⟩)⟩
                      case rest =>
                        obtain ⟨X, Y, rfl, rfl, hb2, hbx⟩ := hcut
                        clear c0 c1 d0 d1 i1 i2 i3 i4 i5 i6 i7 hb
                        obtain ⟨x0, x1, y0, y1⟩ := hbx.out
                        clear hbx
                        go_upto_region 37 with fail
                        go_cut [17, 18] (fun s17 s18 wx => ∃ ga na ca gb nb cb : Nat, s17 = .slice (some ⟨ga, 0, none⟩) na ca ∧ s18 = .slice (some ⟨gb, 0, none⟩) nb cb ∧ 0 < na ∧ 0 < nb ∧ na ≤ 4294967297 ∧ nb ≤ 4294967297 ∧ Hid (Below w1.heap.size w1 wx) ∧ Hid (wx.cell? ⟨X, 0, none⟩ = some (.string p0) ∧ wx.cell? ⟨Y, 0, none⟩ = some (.string p1) ∧ wx.cell? ⟨ga, 0, none⟩ = some (.string (HdT v0)) ∧ wx.cell? ⟨gb, 0, none⟩ = some (.string (HdT v1))))
                        case first =>
                          go_region_held3 (fun w' => w'.cell? ⟨X, 1, none⟩ = some (.string v0) ∧ w'.cell? ⟨Y, 1, none⟩ = some (.string v1))
                            (first
                              | go_keep
                              | (go_split_ands
                                 refine ⟨(hbd.out.cell (World.block_lt_of_cell? _ _ (by assumption))).trans (by assumption), (hbd.out.cell (World.block_lt_of_cell? _ _ (by assumption))).trans (by assumption)⟩)
                              | (go_split_ands
                                 refine ⟨(hbc.out.cell (World.block_lt_of_cell? _ _ (by assumption))).trans (by assumption), (hbc.out.cell (World.block_lt_of_cell? _ _ (by assumption))).trans (by assumption)⟩))
                            (first
                              | (go_at_call_of 23 (Value.string v0); refine (CUT.out v0 _ s0).mono ?_; rintro e wc ⟨ga, na, ca, rfl, i1, j1, hbc, q1, l1, t1⟩)
                              | (go_at_call_of 23 (Value.string v1); refine (CUT.out v1 _ s1).mono ?_; rintro e wd ⟨gb, nb, cb, rfl, i2, j2, hbd, q2, l2, t2⟩))
                          have F : Hid (Below w1.heap.size w1 wd) := Lib.hid (below_trans (below_trans hb2.out.drew hbc.out) hbd.out)
                          have lX := World.block_lt_of_cell? _ _ x0
                          have lY := World.block_lt_of_cell? _ _ y0
                          have FC : Hid (wd.cell? ⟨X, 0, none⟩ = some (.string p0) ∧ wd.cell? ⟨Y, 0, none⟩ = some (.string p1) ∧ wd.cell? ⟨ga, 0, none⟩ = some (.string (HdT v0)) ∧ wd.cell? ⟨gb, 0, none⟩ = some (.string (HdT v1))) :=
                            Lib.hid ⟨((hbd.out.cell (p := ⟨X, 0, none⟩) (Nat.lt_of_lt_of_le lX hbc.out.size)).trans (hbc.out.cell (p := ⟨X, 0, none⟩) lX)).trans x0, ((hbd.out.cell (p := ⟨Y, 0, none⟩) (Nat.lt_of_lt_of_le lY hbc.out.size)).trans (hbc.out.cell (p := ⟨Y, 0, none⟩) lY)).trans y0, (hbd.out.cell (p := ⟨ga, 0, none⟩) l1.out).trans t1, t2⟩
                          clear lX lY hbc hbd t1 t2 l1 l2 q1 q2 x0 x1 y0 y1 hb2
                          go_wp2_with fail
                          go_meet
                          exact ⟨ga, na, ca, gb, nb, cb, rfl, rfl, i1, i2, j1, j2, F, FC⟩
                        case rest =>
                          obtain ⟨ga, na, ca, gb, nb, cb, rfl, rfl, i1, i2, j1, j2, hb3, hcl⟩ := hcut
                          clear x0 x1 y0 y1 hb2
                          obtain ⟨x0, y0, x1, y1⟩ := hcl.out
                          clear hcl
                          have C1 := Lib.hid (fun w => HC.out.hd v0 v1 w s0 s1)
                          have C2 := Lib.hid (fun w => HC.out.hd v1 v0 w s1 s0)
                          have NK : Hid ((p0.data.toList ≠ p1.data.toList → Op.bytesLess p0.toList p1.toList = true) ∧ (p0.data.toList = p1.data.toList → vC (hdV v0.data.toList) (hdV v1.data.toList) ≤ 0 ∧ 0 ≤ vC (hdV v1.data.toList) (hdV v0.data.toList))) := Lib.hid ex.out
                          generalize vC (hdV v0.data.toList) (hdV v1.data.toList) = r1 at C1 NK
                          generalize vC (hdV v1.data.toList) (hdV v0.data.toList) = r2 at C2 NK
                          go_upto_region 38 with fail
                          go_cut [19] (fun s19 wx => s19 = .int .i64 r1 ∧ Hid (Below w1.heap.size w1 wx) ∧ Hid (wx.cell? ⟨X, 0, none⟩ = some (.string p0) ∧ wx.cell? ⟨Y, 0, none⟩ = some (.string p1) ∧ wx.cell? ⟨ga, 0, none⟩ = some (.string (HdT v0)) ∧ wx.cell? ⟨gb, 0, none⟩ = some (.string (HdT v1))))
                          case first =>
                            go_region_held3 (fun w' => w'.cell? ⟨ga, 0, none⟩ = some (.string (HdT v0)) ∧ w'.cell? ⟨gb, 0, none⟩ = some (.string (HdT v1)))
                              (first
                                | go_keep
                                | (go_split_ands
                                   refine ⟨(hbd.out.cell (World.block_lt_of_cell? _ _ (by assumption))).trans (by assumption), (hbd.out.cell (World.block_lt_of_cell? _ _ (by assumption))).trans (by assumption)⟩))
                              ((go_at_call 20; refine (C1.out _).mono ?_; rintro e wd ⟨rfl, hbd⟩))
                            have F : Hid (Below w1.heap.size w1 wd) := Lib.hid (below_trans hb3.out.drew hbd.out)
                            have FC : Hid (wd.cell? ⟨X, 0, none⟩ = some (.string p0) ∧ wd.cell? ⟨Y, 0, none⟩ = some (.string p1) ∧ wd.cell? ⟨ga, 0, none⟩ = some (.string (HdT v0)) ∧ wd.cell? ⟨gb, 0, none⟩ = some (.string (HdT v1))) :=
                              Lib.hid ⟨(hbd.out.cell (p := ⟨X, 0, none⟩) (World.block_lt_of_cell? _ _ x0)).trans x0, (hbd.out.cell (p := ⟨Y, 0, none⟩) (World.block_lt_of_cell? _ _ y0)).trans y0, (hbd.out.cell (p := ⟨ga, 0, none⟩) (World.block_lt_of_cell? _ _ x1)).trans x1, (hbd.out.cell (p := ⟨gb, 0, none⟩) (World.block_lt_of_cell? _ _ y1)).trans y1⟩
                            clear hbd hb3 x0 x1 y0 y1
                            go_wp2_with fail
                            go_meet
                            exact ⟨rfl, F, FC⟩
                          case rest =>
                            obtain ⟨rfl, hb4, hcl⟩ := hcut
                            clear x0 x1 y0 y1 hb3
                            obtain ⟨x0, y0, x1, y1⟩ := hcl.out
                            clear hcl C1
                            obtain ⟨hgt, hok⟩ := NK.out
                            clear NK
                            cases hpq : (p0.toList == p1.toList) with
                            | false =>
                              have hgu := hgt (txt_ne hpq)
                              clear hok hgt
                              go_wp2
                              go_quiet (fail)
                              go_wp2
                              go_roundw
                              case rel => exact ⟨m + 1, by go_num, by omega, Lib.hid (below_dq' hb4.out _)⟩
                              case measure => simp [intOf]; omega
                            | true =>
                              obtain ⟨n1, n2⟩ := hok (txt_eq hpq)
                              have t1 : decide (0 < r1) = false := by simp; omega
                              have t2 : decide (r2 < 0) = false := by simp; omega
                              clear hok hgt
                              go_wp2
                              go_region_held3 (fun w' => w'.cell? ⟨X, 0, none⟩ = some (.string p0) ∧ w'.cell? ⟨Y, 0, none⟩ = some (.string p1) ∧ w'.cell? ⟨ga, 0, none⟩ = some (.string (HdT v0)) ∧ w'.cell? ⟨gb, 0, none⟩ = some (.string (HdT v1)))
                                (first
                                  | go_keep
                                  | (go_split_ands
                                     refine ⟨(hbd.out.cell (World.block_lt_of_cell? _ _ (by assumption))).trans (by assumption), (hbd.out.cell (World.block_lt_of_cell? _ _ (by assumption))).trans (by assumption), (hbd.out.cell (World.block_lt_of_cell? _ _ (by assumption))).trans (by assumption), (hbd.out.cell (World.block_lt_of_cell? _ _ (by assumption))).trans (by assumption)⟩))
                                ((go_at_call 20; refine (C2.out _).mono ?_; rintro e wd ⟨rfl, hbd⟩))
                              have F : Hid (Below w1.heap.size w1 wd) := Lib.hid (below_trans hb4.out.drew hbd.out)
                              clear hbd hb4 x0 x1 y0 y1
                              go_wp2
                              go_roundw
                              case rel => exact ⟨m + 1, by go_num, by omega, F⟩
                              case measure => simp [intOf]; omega
                    · go_wp2
                      go_ret
                      exact ⟨rfl, (below_trans HB1.out hb.out)⟩
                · intro x c kl ya yb w3 cnt' hkey hlk hv hat hrg1 hcl hgr hsz hen
                  have c0 : c = 0 := count_zero hD.out hkey hv hat
                  have HB3 := Lib.hid (hb.out.grown hgr hb.out.size (fun j hj => by cases hj; exact hR.out))
                  have HM : Hid (w3.rangeLeft w1.heap.size R < wr.rangeLeft w1.heap.size R) := Lib.hid (by rw [hrg1.left_eq, hrg.out.left_eq]; exact hcl)
                  have HR1 := Lib.hid hrg1
                  subst c0
                  clear hkey hlk hv hat hrg1 hcl hgr hsz hrg hb HRG HB2
                  go_wp2
                  go_roundw
                  case rel => exact ⟨_, _, HR1, HB3⟩
                  case measure => exact HM.out
    · go_enter Try.func9, Try.ntmps9
      go_wp2_with fail
      refine Z.out.mono ?_
      rintro e w0 ⟨rfl, hb0⟩
      go_wp2
      go_ret
      exact ⟨rfl, hb0.out⟩
end Go.Proofs.Ytdinaphcglmhoaa
