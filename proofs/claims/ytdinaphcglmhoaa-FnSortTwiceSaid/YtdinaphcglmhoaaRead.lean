/-
  The walk of spec.Read.
-/
import Derived.Test.YtdinaphcglmhoaaReadP
import Derived.Test.YtdinaphcglmhoaaParts
import Derived.Test.YtdinaphcglmhoaaPre
import Derived.Laws.ResultCell
import Derived.RegionTactic
import Derived.ChangeAlike
namespace Go.Proofs.Ytdinaphcglmhoaa
open Go.RowKit
set_option linter.unusedVariables false
set_option linter.unusedSimpArgs false

theorem wp_gen {P : Program} {c : Code} {Q : Exit → Act → World → Prop} {a : Act} {w W : World} {t : TypeId} {a0 a1 a2 a3 a4 : ByteArray} {k : Int} (h : ∀ W', RS w W' t a0 a1 a2 a3 a4 k → Code.wp P c Q a W') (hW : RS w W t a0 a1 a2 a3 a4 k) : Code.wp P c Q a W := h W hW

set_option maxRecDepth 100000 in
set_option maxHeartbeats 40000000 in
theorem read_any (s : ByteArray) (w : World) (hs : s.size ≤ 4294967296) :
    Calls Try.prog 25 #[.string s] w fun e w' => RvE (readV s.data.toList) e ∧ Below w.heap.size w w' := by
  cases hl : s.data.toList with
  | nil =>
    have he : s.toList.isEmpty = true := by rw [Lib.toList_data, hl]; rfl
    clear hl
    go_enter Try.func25, Try.ntmps25
    go_wp2
    refine bodyPost_ret (v := .tuple #[rvAgg ⟨#[48]⟩ ⟨#[48]⟩ ⟨#[48]⟩ ⟨#[]⟩ ⟨#[]⟩ 0, .bool false]) (by simp [rvAgg, results, Try.results25, go_sem]) rfl ⟨RvE.no rfl _ _ _ _ _ _, below_al (below_al (Below.refl _ _) _) _⟩
  | cons c r =>
    obtain ⟨h0, he, hv, hx⟩ := str_cons hl
    by_cases hc : c = 118
    · have e1 : ((s[0].toNat : Int) != 118) = false := by rw [hv h0, hc]; rfl
      have P0 := Lib.hid (RS.new w 46 ⟨#[48]⟩ ⟨#[48]⟩ ⟨#[48]⟩ ⟨#[]⟩ ⟨#[]⟩ 0)
      obtain ⟨v, hvd⟩ : ∃ v, v = s.extract 1 s.size := ⟨_, rfl⟩
      have hvr : v.data.toList = r := by rw [hvd, hx]
      have hvs : v.size ≤ 4294967296 := by rw [hvd]; simp; omega
      have HVD := Lib.hid hvd
      have HVR := Lib.hid hvr
      have HC118 := Lib.hid hc
      clear hv hx hl hc hvd hvr
      go_enter Try.func25, Try.ntmps25
      go_wp2
      have hsz : s.size - 1 = v.size := by rw [HVD.out]; simp
      rw [← HVD.out, hsz]
      clear hsz
      go_loop [0, 24] (fun u i => ∃ k : Nat, k ≤ v.size ∧ i = .int .i64 k ∧ u = .string v ∧ Hid (∀ c ∈ v.data.toList.take k, np c = true)) (fun _ i => v.size - (intOf i).toNat)
      case atStart => exact ⟨0, Nat.zero_le _, rfl, rfl, Lib.hid (by simp)⟩
      case round =>
        obtain ⟨k, hk, rfl, rfl, hall⟩ := hrel
        by_cases hlt : k < v.size
        · by_cases h43 : (v[k].toNat : Int) = 43
          · have e43 : ((v[k].toNat : Int) == 43) = true := by simpa using h43
            have h43' := byte_eq' (n := 43) h43
            clear h43
            have hA := takeWhile_at (p := np) (l := v.data.toList) (k := k) hall.out (.inr ⟨_, byte_at' v k hlt, by rw [h43']; rfl⟩)
            have HA1 : Hid ((v.extract 0 k).data.toList = r.takeWhile np) := Lib.hid (by rw [extract_take, ← hA.1, HVR.out])
            have HPL : Hid ((v.extract k v.size).data.toList = r.dropWhile np) := Lib.hid (by rw [extract_drop, ← hA.2, HVR.out])
            have hA1s : (v.extract 0 k).size ≤ 4294967296 := by simp; omega
            have hplp : 0 < (v.extract k v.size).size := by simp; omega
            have hPLs : (v.extract k v.size).size ≤ 4294967296 := by simp; omega
            have HS1 : Hid ((v.extract 0 k).size = k) := Lib.hid (by simp; omega)
            clear hA h43' hall
            go_wp2
            go_region
            go_wp2
            refine wp_gen (t := 46) (a4 := v.extract k v.size) ?_ (by first | exact RS.new _ _ _ _ _ _ _ _ | exact (RS.new _ _ _ _ _ _ _ _).drew)
            intro W PW
            generalize v.extract k v.size = pl at *
            generalize v.extract 0 k = v1 at *
            obtain ⟨n1, hn1⟩ : ∃ n, n = k := ⟨k, rfl⟩
            subst hn1
            go_loop [0, 41] (fun u i => ∃ k : Nat, k ≤ n1 ∧ i = .int .i64 k ∧ u = .string v1 ∧ Hid (∀ c ∈ v1.data.toList.take k, nd c = true)) (fun _ i => n1 - (intOf i).toNat)
            case atStart => exact ⟨0, Nat.zero_le _, rfl, rfl, Lib.hid (by simp)⟩
            case round =>
              obtain ⟨k2, hk2, rfl, rfl, hall2⟩ := hrel
              by_cases hlt2 : k2 < n1
              · have hv1k : k2 < v1.size := by rw [HS1.out]; exact hlt2
                by_cases h45 : (v1[k2].toNat : Int) = 45
                · have e45 : ((v1[k2].toNat : Int) == 45) = true := by simpa using h45
                  have h45' := byte_eq' (n := 45) h45
                  clear h45
                  have hA := takeWhile_at (p := nd) (l := v1.data.toList) (k := k2) hall2.out (.inr ⟨_, byte_at' v1 k2 hv1k, by rw [h45']; rfl⟩)
                  have HV2 : Hid ((v1.extract 0 k2).data.toList = (r.takeWhile np).takeWhile nd) := Lib.hid (by rw [extract_take, ← hA.1, HA1.out])
                  have HPRE : Hid ((v1.extract k2 v1.size).data.toList = (r.takeWhile np).dropWhile nd) := Lib.hid (by rw [extract_drop, ← hA.2, HA1.out])
                  have hv2s : (v1.extract 0 k2).size ≤ 4294967296 := by have := HS1.out; simp; omega
                  have hprep : 0 < (v1.extract k2 v1.size).size := by have := HS1.out; simp; omega
                  have hpres : (v1.extract k2 v1.size).size ≤ 4294967296 := by have := HS1.out; simp; omega
                  clear hA h45' hall2
                  obtain ⟨c0, c1, c2, c3, c4, c5⟩ := PW.cells1
                  have hf1 := PW.free1
                  have PX := Lib.hid PW
                  clear PW
                  go_wp2
                  go_region
                  go_wp2_with fail
                  refine (cut_new _ 46 _ hv2s).mono ?_
                  rintro e W3 ⟨g, cap, rfl, hrow, hb, hgB⟩
                  have HGB : Hid (g ≠ w.heap.size + 1) := Lib.hid (by first | exact gt_ne (PX.out.set3 _).lt hgB | exact gt_ne (PX.out.set3 _).drew.lt hgB | exact gt_ne (PX.out.drew.set3 _).lt hgB)
                  have PW3 : RS w W3 46 ⟨#[48]⟩ ⟨#[48]⟩ ⟨#[48]⟩ (v1.extract k2 v1.size) pl 0 := by first | exact (PX.out.set3 _).call hb | exact (PX.out.set3 _).drew.call hb | exact (PX.out.drew.set3 _).call hb
                  clear c0 c1 c2 c3 c4 c5 hf1 hb PX
                  generalize v1.extract k2 v1.size = pre at *
                  generalize v1.extract 0 k2 = v2 at *
                  -- both texts behind are cut off
                  have EQ : Hid (readV (c :: r) = readL (cutL v2.data.toList 46) pre.data.toList pl.data.toList) := Lib.hid (by
                    unfold readV; rw [if_pos (by simp [HC118.out]), HV2.out, HPRE.out, HPL.out]; rfl)
                  have hsz : ∀ x ∈ cutL v2.data.toList 46, x.length ≤ v2.size := by have := cutL_size v2.data.toList 46; simpa using this
                  have hlen : (cutL v2.data.toList 46).length ≤ v2.size + 1 := by have := cutL_len v2.data.toList 46; simpa using this
                  have hne := List.length_pos_iff.2 (cutL_ne v2.data.toList 46)
                  have EQ := Lib.hid EQ.out
                  generalize cutL v2.data.toList 46 = L at *
                  have HSZ := Lib.hid hsz
                  have HEQ := Lib.hid EQ.out
                  clear EQ hsz
                  obtain ⟨c0, c1, c2, c3, c4, c5⟩ := PW3.cells1
                  obtain ⟨d0, d1, d2, d3, d4, d5⟩ := PW3.cells0
                  have hf1 := PW3.free1
                  have hf0 := PW3.free0
                  have P5 := Lib.hid (PW3.set5 (L.length : Int))
                  have HROW := Lib.hid hrow
                  clear PW3 hrow
                  by_cases hn3 : 3 < L.length
                  · have E : Hid (readV (c :: r) = none) := Lib.hid (by rw [HEQ.out]; unfold readL; rw [if_pos (.inl hn3)])
                    go_wp2
                    refine bodyPost_ret (v := .tuple #[rvAgg ⟨#[48]⟩ ⟨#[48]⟩ ⟨#[48]⟩ pre pl L.length, .bool false]) (by simp [rvAgg, results, Try.results25, go_sem, c0, c1, c2, c3, c4, c5, d0, d1, d2, d3, d4, d5, hf0, hf1]) rfl ⟨RvE.no E.out _ _ _ _ _ _, P5.out.end6 _ _ _ _ _ _⟩
                  · have HN3 := Lib.hid hn3
                    have hn3' : L.length ≤ 3 := by omega
                    clear hn3
                    by_cases hn2 : L.length < 3
                    · have hcat : (pre ++ pl).toList.isEmpty = false := cat_r hplp
                      have hne_pl : pl.data.toList ≠ [] := ne_str hplp
                      have E : Hid (readV (c :: r) = none) := Lib.hid (by rw [HEQ.out]; unfold readL; rw [if_pos (.inr (.inl ⟨hn2, .inr hne_pl⟩))])
                      have hcs : pre.size + pl.size ≤ 8589934592 := by omega
                      go_wp2
                      refine bodyPost_ret (v := .tuple #[rvAgg ⟨#[48]⟩ ⟨#[48]⟩ ⟨#[48]⟩ pre pl L.length, .bool false]) (by simp [rvAgg, results, Try.results25, go_sem, c0, c1, c2, c3, c4, c5, d0, d1, d2, d3, d4, d5, hf0, hf1]) rfl ⟨RvE.no E.out _ _ _ _ _ _, P5.out.end6 _ _ _ _ _ _⟩
                    · have hn2' : 3 ≤ L.length := by omega
                      have HN2 := Lib.hid hn2
                      clear hn2
                      have hne_pre := Lib.hid (ne_str hprep)
                      have hpe : pre.toList.isEmpty = false := nonempty_str hprep
                      have hpe1 : 1 ≤ pre.size := hprep
                      obtain ⟨pa, hpa⟩ : ∃ b, partsB (pre.data.toList.drop 1) true = b := ⟨_, rfl⟩
                      have Cpa := fun wx => parts_any (pre.extract 1 pre.size) true wx (by simp; omega)
                      rw [extract_drop, hpa] at Cpa
                      have Cpa := Lib.hid Cpa
                      have Hpa := Lib.hid hpa
                      clear hpa
                      have hne_pl := Lib.hid (ne_str hplp)
                      have hle : pl.toList.isEmpty = false := nonempty_str hplp
                      have hle1 : 1 ≤ pl.size := hplp
                      obtain ⟨pb, hpb⟩ : ∃ b, partsB (pl.data.toList.drop 1) false = b := ⟨_, rfl⟩
                      have Cpb := fun wx => parts_any (pl.extract 1 pl.size) false wx (by simp; omega)
                      rw [extract_drop, hpb] at Cpb
                      have Cpb := Lib.hid Cpb
                      have Hpb := Lib.hid hpb
                      clear hpb
                      cases pa
                      · have E : Hid (readV (c :: r) = none) := Lib.hid (by rw [HEQ.out]; unfold readL; rw [if_pos (.inr (.inr (.inl ⟨hne_pre.out, Hpa.out⟩)))])
                        go_wp2_with fail
                        refine (Cpa.out _).mono ?_
                        rintro e W4 ⟨rfl, hb4⟩
                        have PA' := Lib.hid (P5.out.call hb4)
                        have ROWPA := Lib.hid (TxRow.below (HROW.out.set_ (v := .int .i64 L.length) (p := ⟨w.heap.size + 1, 5, none⟩) HGB.out) hb4)
                        clear c0 c1 c2 c3 c4 c5 d0 d1 d2 d3 d4 d5 hf1 hf0 hb4
                        have PQ := PA'.out
                        obtain ⟨c0, c1, c2, c3, c4, c5⟩ := PQ.cells1
                        obtain ⟨d0, d1, d2, d3, d4, d5⟩ := PQ.cells0
                        have hf1 := PQ.free1
                        have hf0 := PQ.free0
                        clear PQ
                        go_wp2
                        refine bodyPost_ret (v := .tuple #[rvAgg ⟨#[48]⟩ ⟨#[48]⟩ ⟨#[48]⟩ pre pl L.length, .bool false]) (by simp [rvAgg, results, Try.results25, go_sem, c0, c1, c2, c3, c4, c5, d0, d1, d2, d3, d4, d5, hf0, hf1]) rfl ⟨RvE.no E.out _ _ _ _ _ _, PA'.out.end6 _ _ _ _ _ _⟩
                      · cases pb
                        · have E : Hid (readV (c :: r) = none) := Lib.hid (by rw [HEQ.out]; unfold readL; rw [if_pos (.inr (.inr (.inr ⟨hne_pl.out, Hpb.out⟩)))])
                          go_wp2_with fail
                          refine (Cpa.out _).mono ?_
                          rintro e W4 ⟨rfl, hb4⟩
                          have PA' := Lib.hid (P5.out.call hb4)
                          have ROWPA := Lib.hid (TxRow.below (HROW.out.set_ (v := .int .i64 L.length) (p := ⟨w.heap.size + 1, 5, none⟩) HGB.out) hb4)
                          clear c0 c1 c2 c3 c4 c5 d0 d1 d2 d3 d4 d5 hf1 hf0 hb4
                          have PQ := PA'.out
                          obtain ⟨c0, c1, c2, c3, c4, c5⟩ := PQ.cells1
                          obtain ⟨d0, d1, d2, d3, d4, d5⟩ := PQ.cells0
                          have hf1 := PQ.free1
                          have hf0 := PQ.free0
                          clear PQ
                          go_wp2_with fail
                          refine (Cpb.out _).mono ?_
                          rintro e W5 ⟨rfl, hb5⟩
                          have PB' := Lib.hid (PA'.out.call hb5)
                          have ROWPB := Lib.hid (TxRow.below ROWPA.out hb5)
                          clear c0 c1 c2 c3 c4 c5 d0 d1 d2 d3 d4 d5 hf1 hf0 hb5
                          have PQ := PB'.out
                          obtain ⟨c0, c1, c2, c3, c4, c5⟩ := PQ.cells1
                          obtain ⟨d0, d1, d2, d3, d4, d5⟩ := PQ.cells0
                          have hf1 := PQ.free1
                          have hf0 := PQ.free0
                          clear PQ
                          go_wp2
                          refine bodyPost_ret (v := .tuple #[rvAgg ⟨#[48]⟩ ⟨#[48]⟩ ⟨#[48]⟩ pre pl L.length, .bool false]) (by simp [rvAgg, results, Try.results25, go_sem, c0, c1, c2, c3, c4, c5, d0, d1, d2, d3, d4, d5, hf0, hf1]) rfl ⟨RvE.no E.out _ _ _ _ _ _, PB'.out.end6 _ _ _ _ _ _⟩
                        · have RL : Hid (readV (c :: r) = if L.all numB = true then some ⟨L.getD 0 [48], L.getD 1 [48], L.getD 2 [48], pre.data.toList, pl.data.toList, L.length⟩ else none) := Lib.hid (by
                            rw [HEQ.out]; unfold readL; rw [if_neg]
                            rintro (h' | ⟨h', _⟩ | ⟨h1, h'⟩ | ⟨h1, h'⟩)
                            · exact HN3.out h'
                            · exact HN2.out h'
                            · rw [Hpa.out] at h'; cases h'
                            · rw [Hpb.out] at h'; cases h')
                          go_wp2_with fail
                          refine (Cpa.out _).mono ?_
                          rintro e W4 ⟨rfl, hb4⟩
                          have PA' := Lib.hid (P5.out.call hb4)
                          have ROWPA := Lib.hid (TxRow.below (HROW.out.set_ (v := .int .i64 L.length) (p := ⟨w.heap.size + 1, 5, none⟩) HGB.out) hb4)
                          clear c0 c1 c2 c3 c4 c5 d0 d1 d2 d3 d4 d5 hf1 hf0 hb4
                          have PQ := PA'.out
                          obtain ⟨c0, c1, c2, c3, c4, c5⟩ := PQ.cells1
                          obtain ⟨d0, d1, d2, d3, d4, d5⟩ := PQ.cells0
                          have hf1 := PQ.free1
                          have hf0 := PQ.free0
                          clear PQ
                          go_wp2_with fail
                          refine (Cpb.out _).mono ?_
                          rintro e W5 ⟨rfl, hb5⟩
                          have PB' := Lib.hid (PA'.out.call hb5)
                          have ROWPB := Lib.hid (TxRow.below ROWPA.out hb5)
                          clear c0 c1 c2 c3 c4 c5 d0 d1 d2 d3 d4 d5 hf1 hf0 hb5
                          have PQ := PB'.out
                          obtain ⟨c0, c1, c2, c3, c4, c5⟩ := PQ.cells1
                          obtain ⟨d0, d1, d2, d3, d4, d5⟩ := PQ.cells0
                          have hf1 := PQ.free1
                          have hf0 := PQ.free0
                          clear PQ
                          go_wp2
                          have HROW2 := Lib.hid (ROWPB.out)
                          have HR3 := HROW2
                          go_loopw [104] (fun i wr => ∃ (k : Nat) (a0 a1 a2 : ByteArray), k ≤ L.length ∧ i = .int .i64 k ∧ RS w wr 46 a0 a1 a2 pre pl L.length ∧ TxRow wr g L ∧ Hid ((L.take k).all numB = true ∧ a0 = tx (getU L k 0) ∧ a1 = tx (getU L k 1) ∧ a2 = tx (getU L k 2))) (fun i _ => L.length - (intOf i).toNat)
                          case atStart => exact ⟨0, ⟨#[48]⟩, ⟨#[48]⟩, ⟨#[48]⟩, Nat.zero_le _, rfl, PB'.out, HR3.out, Lib.hid ⟨rfl, rfl, rfl, rfl⟩⟩
                          case round =>
                            obtain ⟨k, a0, a1, a2, hk, rfl, PQ, hr3, hst⟩ := hrel
                            clear c0 c1 c2 c3 c4 c5 d0 d1 d2 d3 d4 d5 hf1 hf0 HR3
                            obtain ⟨c0, c1, c2, c3, c4, c5⟩ := PQ.cells1
                            obtain ⟨d0, d1, d2, d3, d4, d5⟩ := PQ.cells0
                            have hf1 := PQ.free1
                            have hf0 := PQ.free0
                            by_cases hlt3 : k < L.length
                            · have hcell := hr3.at_ k hlt3
                              have hxs : (tx L[k]).size ≤ 4294967296 := by
                                rw [tx_size]; have := HSZ.out L[k] (List.getElem_mem hlt3); omega
                              obtain ⟨p, hp⟩ : ∃ p : ByteArray, p = tx L[k] := ⟨_, rfl⟩
                              have hpl2 := Lib.hid hp
                              rw [← hp] at hcell hxs
                              have HR3 := Lib.hid hr3
                              have PQ' := Lib.hid PQ
                              obtain ⟨nb, hnb⟩ : ∃ nb, numB p.data.toList = nb := ⟨_, rfl⟩
                              have N := fun wx => specnumber_any p wx hxs
                              rw [hnb] at N
                              have N' := Lib.hid N
                              have HNB : Hid (numB L[k] = nb) := Lib.hid (by rw [← hnb, hp, tx_data])
                              clear hp N hnb hr3 PQ
                              cases nb
                              · have E : Hid (readV (c :: r) = none) := Lib.hid (by rw [RL.out, if_neg]; intro h; rw [List.all_eq_true] at h; have := h _ (List.getElem_mem hlt3); rw [HNB.out] at this; cases this)
                                go_wp2_with (go_at_call 40; refine (N'.out _).mono ?_; rintro e w' ⟨rfl, rfl⟩)
                                refine bodyPost_ret (v := .tuple #[rvAgg a0 a1 a2 pre pl L.length, .bool false]) (by simp [rvAgg, results, Try.results25, go_sem, c0, c1, c2, c3, c4, c5, d0, d1, d2, d3, d4, d5, hf0, hf1]) rfl ⟨RvE.no E.out _ _ _ _ _ _, PQ'.out.end6 _ _ _ _ _ _⟩
                              · have HST : Hid ((L.take (k + 1)).all numB = true) := Lib.hid (by rw [List.take_succ_eq_append_getElem hlt3, List.all_append, hst.out.1]; simp [HNB.out])
                                have hk3 : k = 0 ∨ k = 1 ∨ k = 2 := by omega
                                rcases hk3 with rfl | rfl | rfl
                                · have G := Lib.hid (getU_step0 hlt3 hst.out.2 hpl2.out)
                                  have PN := Lib.hid (PQ'.out.set0 p)
                                  have HRN := Lib.hid (HR3.out.set_ (v := .string p) (p := ⟨w.heap.size + 1, 0, none⟩) (HGB.out))
                                  go_wp2_with (go_at_call 40; refine (N'.out _).mono ?_; rintro e w' ⟨rfl, rfl⟩)
                                  go_roundw
                                  case rel => exact ⟨0 + 1, _, _, _, by omega, by go_num, PN.out, HRN.out, Lib.hid ⟨HST.out, G.out⟩⟩
                                  case measure => simp [intOf]; omega
                                · have G := Lib.hid (getU_step1 hlt3 hst.out.2 hpl2.out)
                                  have PN := Lib.hid (PQ'.out.set1 p)
                                  have HRN := Lib.hid (HR3.out.set_ (v := .string p) (p := ⟨w.heap.size + 1, 1, none⟩) (HGB.out))
                                  go_wp2_with (go_at_call 40; refine (N'.out _).mono ?_; rintro e w' ⟨rfl, rfl⟩)
                                  go_roundw
                                  case rel => exact ⟨1 + 1, _, _, _, by omega, by go_num, PN.out, HRN.out, Lib.hid ⟨HST.out, G.out⟩⟩
                                  case measure => simp [intOf]; omega
                                · have G := Lib.hid (getU_step2 hlt3 hst.out.2 hpl2.out)
                                  have PN := Lib.hid (PQ'.out.set2 p)
                                  have HRN := Lib.hid (HR3.out.set_ (v := .string p) (p := ⟨w.heap.size + 1, 2, none⟩) (HGB.out))
                                  go_wp2_with (go_at_call 40; refine (N'.out _).mono ?_; rintro e w' ⟨rfl, rfl⟩)
                                  go_roundw
                                  case rel => exact ⟨2 + 1, _, _, _, by omega, by go_num, PN.out, HRN.out, Lib.hid ⟨HST.out, G.out⟩⟩
                                  case measure => simp [intOf]; omega
                            · have hkl : k = L.length := by omega
                              have HST := Lib.hid hst.out
                              have E : Hid (readV (c :: r) = some ⟨L.getD 0 [48], L.getD 1 [48], L.getD 2 [48], pre.data.toList, pl.data.toList, L.length⟩) := Lib.hid (by
                                rw [RL.out, if_pos (by have := HST.out.1; rw [hkl, List.take_of_length_le (Nat.le_refl _)] at this; exact this)])
                              have HE := Lib.hid hst.out.2
                              rw [hkl] at HE
                              have PQ' := Lib.hid PQ
                              clear hkl PQ hst HST
                              go_wp2
                              refine bodyPost_ret (v := .tuple #[rvAgg a0 a1 a2 pre pl L.length, .bool true]) (by simp [rvAgg, results, Try.results25, go_sem, c0, c1, c2, c3, c4, c5, d0, d1, d2, d3, d4, d5, hf0, hf1]) rfl ⟨?_, PQ'.out.end6 _ _ _ _ _ _⟩
                              unfold RvE
                              rw [E.out]
                              show Ending.returned _ = Ending.returned _
                              have e := HE.out
                              simp only [getU_all] at e
                              rw [tx_of, tx_of, e.1, e.2.1, e.2.2]
                · have e45 : ((v1[k2].toNat : Int) == 45) = false := by simpa using h45
                  have HN : Hid (∀ c ∈ v1.data.toList.take (k2 + 1), nd c = true) := Lib.hid (by
                    rw [take_snoc v1 k2 hv1k]; intro c hc
                    rcases List.mem_append.1 hc with hc | hc
                    · exact hall2.out c hc
                    · simp at hc; rw [hc]; unfold nd; simp; exact byte_ne' (n := 45) h45)
                  clear h45
                  go_wp2
                  go_round
                  case rel => exact ⟨k2 + 1, by omega, by go_num, rfl, HN⟩
                  case measure => simp [intOf]; omega
              · have hA := takeWhile_at (p := nd) (l := v1.data.toList) (k := k2) hall2.out (.inl (by rw [size_len, HS1.out]; omega))
                rw [take_all v1 k2 (by rw [HS1.out]; omega)] at hA
                rw [List.drop_of_length_le (by rw [size_len, HS1.out]; omega)] at hA
                have HV2 : Hid (v1.data.toList = (r.takeWhile np).takeWhile nd) := Lib.hid (by rw [← HA1.out]; exact hA.1.symm)
                obtain ⟨pre, hpre⟩ : ∃ pre : ByteArray, pre = ⟨#[]⟩ := ⟨_, rfl⟩
                have HPRE : Hid (pre.data.toList = (r.takeWhile np).dropWhile nd) := Lib.hid (by rw [← HA1.out, hA.2, hpre])
                have hv2s : v1.size ≤ 4294967296 := by rw [HS1.out]; omega
                have hpres : pre.size ≤ 4294967296 := by rw [hpre]; decide
                have hprez : pre.toList.isEmpty = true := by rw [hpre, Lib.toList_data]; rfl
                have PX : Hid (RS w W 46 ⟨#[48]⟩ ⟨#[48]⟩ ⟨#[48]⟩ pre pl 0) := Lib.hid (by rw [hpre]; exact PW)
                clear hA hall2 hpre PW
                go_wp2_with fail
                refine (cut_new _ 46 _ hv2s).mono ?_
                rintro e W3 ⟨g, cap, rfl, hrow, hb, hgB⟩
                have HGB : Hid (g ≠ w.heap.size + 1) := Lib.hid (gt_ne PX.out.lt hgB)
                have PW3 := PX.out.call hb
                clear hb PX
                obtain ⟨v2, hv2⟩ : ∃ v2, v2 = v1 := ⟨v1, rfl⟩
                subst hv2
                -- both texts behind are cut off
                have EQ : Hid (readV (c :: r) = readL (cutL v2.data.toList 46) pre.data.toList pl.data.toList) := Lib.hid (by
                  unfold readV; rw [if_pos (by simp [HC118.out]), HV2.out, HPRE.out, HPL.out]; rfl)
                have hsz : ∀ x ∈ cutL v2.data.toList 46, x.length ≤ v2.size := by have := cutL_size v2.data.toList 46; simpa using this
                have hlen : (cutL v2.data.toList 46).length ≤ v2.size + 1 := by have := cutL_len v2.data.toList 46; simpa using this
                have hne := List.length_pos_iff.2 (cutL_ne v2.data.toList 46)
                have EQ := Lib.hid EQ.out
                generalize cutL v2.data.toList 46 = L at *
                have HSZ := Lib.hid hsz
                have HEQ := Lib.hid EQ.out
                clear EQ hsz
                obtain ⟨c0, c1, c2, c3, c4, c5⟩ := PW3.cells1
                obtain ⟨d0, d1, d2, d3, d4, d5⟩ := PW3.cells0
                have hf1 := PW3.free1
                have hf0 := PW3.free0
                have P5 := Lib.hid (PW3.set5 (L.length : Int))
                have HROW := Lib.hid hrow
                clear PW3 hrow
                by_cases hn3 : 3 < L.length
                · have E : Hid (readV (c :: r) = none) := Lib.hid (by rw [HEQ.out]; unfold readL; rw [if_pos (.inl hn3)])
                  go_wp2
                  refine bodyPost_ret (v := .tuple #[rvAgg ⟨#[48]⟩ ⟨#[48]⟩ ⟨#[48]⟩ pre pl L.length, .bool false]) (by simp [rvAgg, results, Try.results25, go_sem, c0, c1, c2, c3, c4, c5, d0, d1, d2, d3, d4, d5, hf0, hf1]) rfl ⟨RvE.no E.out _ _ _ _ _ _, P5.out.end6 _ _ _ _ _ _⟩
                · have HN3 := Lib.hid hn3
                  have hn3' : L.length ≤ 3 := by omega
                  clear hn3
                  by_cases hn2 : L.length < 3
                  · have hcat : (pre ++ pl).toList.isEmpty = false := cat_r hplp
                    have hne_pl : pl.data.toList ≠ [] := ne_str hplp
                    have E : Hid (readV (c :: r) = none) := Lib.hid (by rw [HEQ.out]; unfold readL; rw [if_pos (.inr (.inl ⟨hn2, .inr hne_pl⟩))])
                    have hcs : pre.size + pl.size ≤ 8589934592 := by omega
                    go_wp2
                    refine bodyPost_ret (v := .tuple #[rvAgg ⟨#[48]⟩ ⟨#[48]⟩ ⟨#[48]⟩ pre pl L.length, .bool false]) (by simp [rvAgg, results, Try.results25, go_sem, c0, c1, c2, c3, c4, c5, d0, d1, d2, d3, d4, d5, hf0, hf1]) rfl ⟨RvE.no E.out _ _ _ _ _ _, P5.out.end6 _ _ _ _ _ _⟩
                  · have hn2' : 3 ≤ L.length := by omega
                    have HN2 := Lib.hid hn2
                    clear hn2
                    have hpe : pre.toList.isEmpty = true := hprez
                    have hne_pl := Lib.hid (ne_str hplp)
                    have hle : pl.toList.isEmpty = false := nonempty_str hplp
                    have hle1 : 1 ≤ pl.size := hplp
                    obtain ⟨pb, hpb⟩ : ∃ b, partsB (pl.data.toList.drop 1) false = b := ⟨_, rfl⟩
                    have Cpb := fun wx => parts_any (pl.extract 1 pl.size) false wx (by simp; omega)
                    rw [extract_drop, hpb] at Cpb
                    have Cpb := Lib.hid Cpb
                    have Hpb := Lib.hid hpb
                    clear hpb
                    cases pb
                    · have E : Hid (readV (c :: r) = none) := Lib.hid (by rw [HEQ.out]; unfold readL; rw [if_pos (.inr (.inr (.inr ⟨hne_pl.out, Hpb.out⟩)))])
                      go_wp2_with fail
                      refine (Cpb.out _).mono ?_
                      rintro e W5 ⟨rfl, hb5⟩
                      have PB' := Lib.hid (P5.out.call hb5)
                      have ROWPB := Lib.hid (TxRow.below (HROW.out.set_ (v := .int .i64 L.length) (p := ⟨w.heap.size + 1, 5, none⟩) HGB.out) hb5)
                      clear c0 c1 c2 c3 c4 c5 d0 d1 d2 d3 d4 d5 hf1 hf0 hb5
                      have PQ := PB'.out
                      obtain ⟨c0, c1, c2, c3, c4, c5⟩ := PQ.cells1
                      obtain ⟨d0, d1, d2, d3, d4, d5⟩ := PQ.cells0
                      have hf1 := PQ.free1
                      have hf0 := PQ.free0
                      clear PQ
                      go_wp2
                      refine bodyPost_ret (v := .tuple #[rvAgg ⟨#[48]⟩ ⟨#[48]⟩ ⟨#[48]⟩ pre pl L.length, .bool false]) (by simp [rvAgg, results, Try.results25, go_sem, c0, c1, c2, c3, c4, c5, d0, d1, d2, d3, d4, d5, hf0, hf1]) rfl ⟨RvE.no E.out _ _ _ _ _ _, PB'.out.end6 _ _ _ _ _ _⟩
                    · have RL : Hid (readV (c :: r) = if L.all numB = true then some ⟨L.getD 0 [48], L.getD 1 [48], L.getD 2 [48], pre.data.toList, pl.data.toList, L.length⟩ else none) := Lib.hid (by
                        rw [HEQ.out]; unfold readL; rw [if_neg]
                        rintro (h' | ⟨h', _⟩ | ⟨h1, h'⟩ | ⟨h1, h'⟩)
                        · exact HN3.out h'
                        · exact HN2.out h'
                        · exact h1 (empty_str hprez)
                        · rw [Hpb.out] at h'; cases h')
                      go_wp2_with fail
                      refine (Cpb.out _).mono ?_
                      rintro e W5 ⟨rfl, hb5⟩
                      have PB' := Lib.hid (P5.out.call hb5)
                      have ROWPB := Lib.hid (TxRow.below (HROW.out.set_ (v := .int .i64 L.length) (p := ⟨w.heap.size + 1, 5, none⟩) HGB.out) hb5)
                      clear c0 c1 c2 c3 c4 c5 d0 d1 d2 d3 d4 d5 hf1 hf0 hb5
                      have PQ := PB'.out
                      obtain ⟨c0, c1, c2, c3, c4, c5⟩ := PQ.cells1
                      obtain ⟨d0, d1, d2, d3, d4, d5⟩ := PQ.cells0
                      have hf1 := PQ.free1
                      have hf0 := PQ.free0
                      clear PQ
                      go_wp2
                      have HROW2 := Lib.hid (ROWPB.out)
                      have HR3 := HROW2
                      go_loopw [104] (fun i wr => ∃ (k : Nat) (a0 a1 a2 : ByteArray), k ≤ L.length ∧ i = .int .i64 k ∧ RS w wr 46 a0 a1 a2 pre pl L.length ∧ TxRow wr g L ∧ Hid ((L.take k).all numB = true ∧ a0 = tx (getU L k 0) ∧ a1 = tx (getU L k 1) ∧ a2 = tx (getU L k 2))) (fun i _ => L.length - (intOf i).toNat)
                      case atStart => exact ⟨0, ⟨#[48]⟩, ⟨#[48]⟩, ⟨#[48]⟩, Nat.zero_le _, rfl, PB'.out, HR3.out, Lib.hid ⟨rfl, rfl, rfl, rfl⟩⟩
                      case round =>
                        obtain ⟨k, a0, a1, a2, hk, rfl, PQ, hr3, hst⟩ := hrel
                        clear c0 c1 c2 c3 c4 c5 d0 d1 d2 d3 d4 d5 hf1 hf0 HR3
                        obtain ⟨c0, c1, c2, c3, c4, c5⟩ := PQ.cells1
                        obtain ⟨d0, d1, d2, d3, d4, d5⟩ := PQ.cells0
                        have hf1 := PQ.free1
                        have hf0 := PQ.free0
                        by_cases hlt3 : k < L.length
                        · have hcell := hr3.at_ k hlt3
                          have hxs : (tx L[k]).size ≤ 4294967296 := by
                            rw [tx_size]; have := HSZ.out L[k] (List.getElem_mem hlt3); omega
                          obtain ⟨p, hp⟩ : ∃ p : ByteArray, p = tx L[k] := ⟨_, rfl⟩
                          have hpl2 := Lib.hid hp
                          rw [← hp] at hcell hxs
                          have HR3 := Lib.hid hr3
                          have PQ' := Lib.hid PQ
                          obtain ⟨nb, hnb⟩ : ∃ nb, numB p.data.toList = nb := ⟨_, rfl⟩
                          have N := fun wx => specnumber_any p wx hxs
                          rw [hnb] at N
                          have N' := Lib.hid N
                          have HNB : Hid (numB L[k] = nb) := Lib.hid (by rw [← hnb, hp, tx_data])
                          clear hp N hnb hr3 PQ
                          cases nb
                          · have E : Hid (readV (c :: r) = none) := Lib.hid (by rw [RL.out, if_neg]; intro h; rw [List.all_eq_true] at h; have := h _ (List.getElem_mem hlt3); rw [HNB.out] at this; cases this)
                            go_wp2_with (go_at_call 40; refine (N'.out _).mono ?_; rintro e w' ⟨rfl, rfl⟩)
                            refine bodyPost_ret (v := .tuple #[rvAgg a0 a1 a2 pre pl L.length, .bool false]) (by simp [rvAgg, results, Try.results25, go_sem, c0, c1, c2, c3, c4, c5, d0, d1, d2, d3, d4, d5, hf0, hf1]) rfl ⟨RvE.no E.out _ _ _ _ _ _, PQ'.out.end6 _ _ _ _ _ _⟩
                          · have HST : Hid ((L.take (k + 1)).all numB = true) := Lib.hid (by rw [List.take_succ_eq_append_getElem hlt3, List.all_append, hst.out.1]; simp [HNB.out])
                            have hk3 : k = 0 ∨ k = 1 ∨ k = 2 := by omega
                            rcases hk3 with rfl | rfl | rfl
                            · have G := Lib.hid (getU_step0 hlt3 hst.out.2 hpl2.out)
                              have PN := Lib.hid (PQ'.out.set0 p)
                              have HRN := Lib.hid (HR3.out.set_ (v := .string p) (p := ⟨w.heap.size + 1, 0, none⟩) (HGB.out))
                              go_wp2_with (go_at_call 40; refine (N'.out _).mono ?_; rintro e w' ⟨rfl, rfl⟩)
                              go_roundw
                              case rel => exact ⟨0 + 1, _, _, _, by omega, by go_num, PN.out, HRN.out, Lib.hid ⟨HST.out, G.out⟩⟩
                              case measure => simp [intOf]; omega
                            · have G := Lib.hid (getU_step1 hlt3 hst.out.2 hpl2.out)
                              have PN := Lib.hid (PQ'.out.set1 p)
                              have HRN := Lib.hid (HR3.out.set_ (v := .string p) (p := ⟨w.heap.size + 1, 1, none⟩) (HGB.out))
                              go_wp2_with (go_at_call 40; refine (N'.out _).mono ?_; rintro e w' ⟨rfl, rfl⟩)
                              go_roundw
                              case rel => exact ⟨1 + 1, _, _, _, by omega, by go_num, PN.out, HRN.out, Lib.hid ⟨HST.out, G.out⟩⟩
                              case measure => simp [intOf]; omega
                            · have G := Lib.hid (getU_step2 hlt3 hst.out.2 hpl2.out)
                              have PN := Lib.hid (PQ'.out.set2 p)
                              have HRN := Lib.hid (HR3.out.set_ (v := .string p) (p := ⟨w.heap.size + 1, 2, none⟩) (HGB.out))
                              go_wp2_with (go_at_call 40; refine (N'.out _).mono ?_; rintro e w' ⟨rfl, rfl⟩)
                              go_roundw
                              case rel => exact ⟨2 + 1, _, _, _, by omega, by go_num, PN.out, HRN.out, Lib.hid ⟨HST.out, G.out⟩⟩
                              case measure => simp [intOf]; omega
                        · have hkl : k = L.length := by omega
                          have HST := Lib.hid hst.out
                          have E : Hid (readV (c :: r) = some ⟨L.getD 0 [48], L.getD 1 [48], L.getD 2 [48], pre.data.toList, pl.data.toList, L.length⟩) := Lib.hid (by
                            rw [RL.out, if_pos (by have := HST.out.1; rw [hkl, List.take_of_length_le (Nat.le_refl _)] at this; exact this)])
                          have HE := Lib.hid hst.out.2
                          rw [hkl] at HE
                          have PQ' := Lib.hid PQ
                          clear hkl PQ hst HST
                          go_wp2
                          refine bodyPost_ret (v := .tuple #[rvAgg a0 a1 a2 pre pl L.length, .bool true]) (by simp [rvAgg, results, Try.results25, go_sem, c0, c1, c2, c3, c4, c5, d0, d1, d2, d3, d4, d5, hf0, hf1]) rfl ⟨?_, PQ'.out.end6 _ _ _ _ _ _⟩
                          unfold RvE
                          rw [E.out]
                          show Ending.returned _ = Ending.returned _
                          have e := HE.out
                          simp only [getU_all] at e
                          rw [tx_of, tx_of, e.1, e.2.1, e.2.2]
          · have e43 : ((v[k].toNat : Int) == 43) = false := by simpa using h43
            have HN : Hid (∀ c ∈ v.data.toList.take (k + 1), np c = true) := Lib.hid (by
              rw [take_snoc v k hlt]; intro c hc
              rcases List.mem_append.1 hc with hc | hc
              · exact hall.out c hc
              · simp at hc; rw [hc]; exact np_iff.2 (byte_ne' (n := 43) h43))
            clear h43
            go_wp2
            go_round
            case rel => exact ⟨k + 1, by omega, by go_num, rfl, HN⟩
            case measure => simp [intOf]; omega
        · have hA := takeWhile_at (p := np) (l := v.data.toList) (k := k) hall.out (.inl (by rw [size_len]; omega))
          rw [take_all v k (by omega), List.drop_of_length_le (by rw [size_len]; omega), HVR.out] at hA
          have HA1 : Hid (v.data.toList = r.takeWhile np) := Lib.hid (by rw [HVR.out]; exact hA.1.symm)
          obtain ⟨pl, hpl⟩ : ∃ pl : ByteArray, pl = ⟨#[]⟩ := ⟨_, rfl⟩
          have HPL : Hid (pl.data.toList = r.dropWhile np) := Lib.hid (by rw [hpl, hA.2])
          have hPLs : pl.size ≤ 4294967296 := by rw [hpl]; decide
          have hplz : pl.toList.isEmpty = true := by rw [hpl, Lib.toList_data]; rfl
          have HPLE := Lib.hid hpl
          clear hpl
          clear hA hall
          go_wp2
          refine wp_gen (t := 46) (a4 := ⟨#[]⟩) ?_ (by first | exact RS.new _ _ _ _ _ _ _ _ | exact (RS.new _ _ _ _ _ _ _ _).drew)
          intro W PW
          have PW : RS w W 46 ⟨#[48]⟩ ⟨#[48]⟩ ⟨#[48]⟩ ⟨#[]⟩ pl 0 := by rw [HPLE.out]; exact PW
          clear HPLE
          obtain ⟨v1, hv1⟩ : ∃ v1, v1 = v := ⟨v, rfl⟩
          rw [← hv1] at HA1
          have HS1 : Hid (v1.size = v.size) := Lib.hid (by rw [hv1])
          subst hv1
          generalize hn1 : v1.size = n1 at *
          have HS1 := Lib.hid hn1
          clear hn1
          go_loop [0, 41] (fun u i => ∃ k : Nat, k ≤ n1 ∧ i = .int .i64 k ∧ u = .string v1 ∧ Hid (∀ c ∈ v1.data.toList.take k, nd c = true)) (fun _ i => n1 - (intOf i).toNat)
          case atStart => exact ⟨0, Nat.zero_le _, rfl, rfl, Lib.hid (by simp)⟩
          case round =>
            obtain ⟨k2, hk2, rfl, rfl, hall2⟩ := hrel
            by_cases hlt2 : k2 < n1
            · have hv1k : k2 < v1.size := by rw [HS1.out]; exact hlt2
              by_cases h45 : (v1[k2].toNat : Int) = 45
              · have e45 : ((v1[k2].toNat : Int) == 45) = true := by simpa using h45
                have h45' := byte_eq' (n := 45) h45
                clear h45
                have hA := takeWhile_at (p := nd) (l := v1.data.toList) (k := k2) hall2.out (.inr ⟨_, byte_at' v1 k2 hv1k, by rw [h45']; rfl⟩)
                have HV2 : Hid ((v1.extract 0 k2).data.toList = (r.takeWhile np).takeWhile nd) := Lib.hid (by rw [extract_take, ← hA.1, HA1.out])
                have HPRE : Hid ((v1.extract k2 v1.size).data.toList = (r.takeWhile np).dropWhile nd) := Lib.hid (by rw [extract_drop, ← hA.2, HA1.out])
                have hv2s : (v1.extract 0 k2).size ≤ 4294967296 := by have := HS1.out; simp; omega
                have hprep : 0 < (v1.extract k2 v1.size).size := by have := HS1.out; simp; omega
                have hpres : (v1.extract k2 v1.size).size ≤ 4294967296 := by have := HS1.out; simp; omega
                clear hA h45' hall2
                obtain ⟨c0, c1, c2, c3, c4, c5⟩ := PW.cells1
                have hf1 := PW.free1
                have PX := Lib.hid PW
                clear PW
                go_wp2
                go_region
                go_wp2_with fail
                refine (cut_new _ 46 _ hv2s).mono ?_
                rintro e W3 ⟨g, cap, rfl, hrow, hb, hgB⟩
                have HGB : Hid (g ≠ w.heap.size + 1) := Lib.hid (by first | exact gt_ne (PX.out.set3 _).lt hgB | exact gt_ne (PX.out.set3 _).drew.lt hgB | exact gt_ne (PX.out.drew.set3 _).lt hgB)
                have PW3 : RS w W3 46 ⟨#[48]⟩ ⟨#[48]⟩ ⟨#[48]⟩ (v1.extract k2 v1.size) pl 0 := by first | exact (PX.out.set3 _).call hb | exact (PX.out.set3 _).drew.call hb | exact (PX.out.drew.set3 _).call hb
                clear c0 c1 c2 c3 c4 c5 hf1 hb PX
                generalize v1.extract k2 v1.size = pre at *
                generalize v1.extract 0 k2 = v2 at *
                -- both texts behind are cut off
                have EQ : Hid (readV (c :: r) = readL (cutL v2.data.toList 46) pre.data.toList pl.data.toList) := Lib.hid (by
                  unfold readV; rw [if_pos (by simp [HC118.out]), HV2.out, HPRE.out, HPL.out]; rfl)
                have hsz : ∀ x ∈ cutL v2.data.toList 46, x.length ≤ v2.size := by have := cutL_size v2.data.toList 46; simpa using this
                have hlen : (cutL v2.data.toList 46).length ≤ v2.size + 1 := by have := cutL_len v2.data.toList 46; simpa using this
                have hne := List.length_pos_iff.2 (cutL_ne v2.data.toList 46)
                have EQ := Lib.hid EQ.out
                generalize cutL v2.data.toList 46 = L at *
                have HSZ := Lib.hid hsz
                have HEQ := Lib.hid EQ.out
                clear EQ hsz
                obtain ⟨c0, c1, c2, c3, c4, c5⟩ := PW3.cells1
                obtain ⟨d0, d1, d2, d3, d4, d5⟩ := PW3.cells0
                have hf1 := PW3.free1
                have hf0 := PW3.free0
                have P5 := Lib.hid (PW3.set5 (L.length : Int))
                have HROW := Lib.hid hrow
                clear PW3 hrow
                by_cases hn3 : 3 < L.length
                · have E : Hid (readV (c :: r) = none) := Lib.hid (by rw [HEQ.out]; unfold readL; rw [if_pos (.inl hn3)])
                  go_wp2
                  refine bodyPost_ret (v := .tuple #[rvAgg ⟨#[48]⟩ ⟨#[48]⟩ ⟨#[48]⟩ pre pl L.length, .bool false]) (by simp [rvAgg, results, Try.results25, go_sem, c0, c1, c2, c3, c4, c5, d0, d1, d2, d3, d4, d5, hf0, hf1]) rfl ⟨RvE.no E.out _ _ _ _ _ _, P5.out.end6 _ _ _ _ _ _⟩
                · have HN3 := Lib.hid hn3
                  have hn3' : L.length ≤ 3 := by omega
                  clear hn3
                  by_cases hn2 : L.length < 3
                  · have hcat : (pre ++ pl).toList.isEmpty = false := cat_l hprep
                    have hne_pre : pre.data.toList ≠ [] := ne_str hprep
                    have E : Hid (readV (c :: r) = none) := Lib.hid (by rw [HEQ.out]; unfold readL; rw [if_pos (.inr (.inl ⟨hn2, .inl hne_pre⟩))])
                    have hcs : pre.size + pl.size ≤ 8589934592 := by omega
                    go_wp2
                    refine bodyPost_ret (v := .tuple #[rvAgg ⟨#[48]⟩ ⟨#[48]⟩ ⟨#[48]⟩ pre pl L.length, .bool false]) (by simp [rvAgg, results, Try.results25, go_sem, c0, c1, c2, c3, c4, c5, d0, d1, d2, d3, d4, d5, hf0, hf1]) rfl ⟨RvE.no E.out _ _ _ _ _ _, P5.out.end6 _ _ _ _ _ _⟩
                  · have hn2' : 3 ≤ L.length := by omega
                    have HN2 := Lib.hid hn2
                    clear hn2
                    have hne_pre := Lib.hid (ne_str hprep)
                    have hpe : pre.toList.isEmpty = false := nonempty_str hprep
                    have hpe1 : 1 ≤ pre.size := hprep
                    obtain ⟨pa, hpa⟩ : ∃ b, partsB (pre.data.toList.drop 1) true = b := ⟨_, rfl⟩
                    have Cpa := fun wx => parts_any (pre.extract 1 pre.size) true wx (by simp; omega)
                    rw [extract_drop, hpa] at Cpa
                    have Cpa := Lib.hid Cpa
                    have Hpa := Lib.hid hpa
                    clear hpa
                    have hle : pl.toList.isEmpty = true := hplz
                    cases pa
                    · have E : Hid (readV (c :: r) = none) := Lib.hid (by rw [HEQ.out]; unfold readL; rw [if_pos (.inr (.inr (.inl ⟨hne_pre.out, Hpa.out⟩)))])
                      go_wp2_with fail
                      refine (Cpa.out _).mono ?_
                      rintro e W4 ⟨rfl, hb4⟩
                      have PA' := Lib.hid (P5.out.call hb4)
                      have ROWPA := Lib.hid (TxRow.below (HROW.out.set_ (v := .int .i64 L.length) (p := ⟨w.heap.size + 1, 5, none⟩) HGB.out) hb4)
                      clear c0 c1 c2 c3 c4 c5 d0 d1 d2 d3 d4 d5 hf1 hf0 hb4
                      have PQ := PA'.out
                      obtain ⟨c0, c1, c2, c3, c4, c5⟩ := PQ.cells1
                      obtain ⟨d0, d1, d2, d3, d4, d5⟩ := PQ.cells0
                      have hf1 := PQ.free1
                      have hf0 := PQ.free0
                      clear PQ
                      go_wp2
                      refine bodyPost_ret (v := .tuple #[rvAgg ⟨#[48]⟩ ⟨#[48]⟩ ⟨#[48]⟩ pre pl L.length, .bool false]) (by simp [rvAgg, results, Try.results25, go_sem, c0, c1, c2, c3, c4, c5, d0, d1, d2, d3, d4, d5, hf0, hf1]) rfl ⟨RvE.no E.out _ _ _ _ _ _, PA'.out.end6 _ _ _ _ _ _⟩
                    · have RL : Hid (readV (c :: r) = if L.all numB = true then some ⟨L.getD 0 [48], L.getD 1 [48], L.getD 2 [48], pre.data.toList, pl.data.toList, L.length⟩ else none) := Lib.hid (by
                        rw [HEQ.out]; unfold readL; rw [if_neg]
                        rintro (h' | ⟨h', _⟩ | ⟨h1, h'⟩ | ⟨h1, h'⟩)
                        · exact HN3.out h'
                        · exact HN2.out h'
                        · rw [Hpa.out] at h'; cases h'
                        · exact h1 (empty_str hplz))
                      go_wp2_with fail
                      refine (Cpa.out _).mono ?_
                      rintro e W4 ⟨rfl, hb4⟩
                      have PA' := Lib.hid (P5.out.call hb4)
                      have ROWPA := Lib.hid (TxRow.below (HROW.out.set_ (v := .int .i64 L.length) (p := ⟨w.heap.size + 1, 5, none⟩) HGB.out) hb4)
                      clear c0 c1 c2 c3 c4 c5 d0 d1 d2 d3 d4 d5 hf1 hf0 hb4
                      have PQ := PA'.out
                      obtain ⟨c0, c1, c2, c3, c4, c5⟩ := PQ.cells1
                      obtain ⟨d0, d1, d2, d3, d4, d5⟩ := PQ.cells0
                      have hf1 := PQ.free1
                      have hf0 := PQ.free0
                      clear PQ
                      go_wp2
                      have HROW2 := Lib.hid (ROWPA.out)
                      have HR3 := HROW2
                      go_loopw [104] (fun i wr => ∃ (k : Nat) (a0 a1 a2 : ByteArray), k ≤ L.length ∧ i = .int .i64 k ∧ RS w wr 46 a0 a1 a2 pre pl L.length ∧ TxRow wr g L ∧ Hid ((L.take k).all numB = true ∧ a0 = tx (getU L k 0) ∧ a1 = tx (getU L k 1) ∧ a2 = tx (getU L k 2))) (fun i _ => L.length - (intOf i).toNat)
                      case atStart => exact ⟨0, ⟨#[48]⟩, ⟨#[48]⟩, ⟨#[48]⟩, Nat.zero_le _, rfl, PA'.out, HR3.out, Lib.hid ⟨rfl, rfl, rfl, rfl⟩⟩
                      case round =>
                        obtain ⟨k, a0, a1, a2, hk, rfl, PQ, hr3, hst⟩ := hrel
                        clear c0 c1 c2 c3 c4 c5 d0 d1 d2 d3 d4 d5 hf1 hf0 HR3
                        obtain ⟨c0, c1, c2, c3, c4, c5⟩ := PQ.cells1
                        obtain ⟨d0, d1, d2, d3, d4, d5⟩ := PQ.cells0
                        have hf1 := PQ.free1
                        have hf0 := PQ.free0
                        by_cases hlt3 : k < L.length
                        · have hcell := hr3.at_ k hlt3
                          have hxs : (tx L[k]).size ≤ 4294967296 := by
                            rw [tx_size]; have := HSZ.out L[k] (List.getElem_mem hlt3); omega
                          obtain ⟨p, hp⟩ : ∃ p : ByteArray, p = tx L[k] := ⟨_, rfl⟩
                          have hpl2 := Lib.hid hp
                          rw [← hp] at hcell hxs
                          have HR3 := Lib.hid hr3
                          have PQ' := Lib.hid PQ
                          obtain ⟨nb, hnb⟩ : ∃ nb, numB p.data.toList = nb := ⟨_, rfl⟩
                          have N := fun wx => specnumber_any p wx hxs
                          rw [hnb] at N
                          have N' := Lib.hid N
                          have HNB : Hid (numB L[k] = nb) := Lib.hid (by rw [← hnb, hp, tx_data])
                          clear hp N hnb hr3 PQ
                          cases nb
                          · have E : Hid (readV (c :: r) = none) := Lib.hid (by rw [RL.out, if_neg]; intro h; rw [List.all_eq_true] at h; have := h _ (List.getElem_mem hlt3); rw [HNB.out] at this; cases this)
                            go_wp2_with (go_at_call 40; refine (N'.out _).mono ?_; rintro e w' ⟨rfl, rfl⟩)
                            refine bodyPost_ret (v := .tuple #[rvAgg a0 a1 a2 pre pl L.length, .bool false]) (by simp [rvAgg, results, Try.results25, go_sem, c0, c1, c2, c3, c4, c5, d0, d1, d2, d3, d4, d5, hf0, hf1]) rfl ⟨RvE.no E.out _ _ _ _ _ _, PQ'.out.end6 _ _ _ _ _ _⟩
                          · have HST : Hid ((L.take (k + 1)).all numB = true) := Lib.hid (by rw [List.take_succ_eq_append_getElem hlt3, List.all_append, hst.out.1]; simp [HNB.out])
                            have hk3 : k = 0 ∨ k = 1 ∨ k = 2 := by omega
                            rcases hk3 with rfl | rfl | rfl
                            · have G := Lib.hid (getU_step0 hlt3 hst.out.2 hpl2.out)
                              have PN := Lib.hid (PQ'.out.set0 p)
                              have HRN := Lib.hid (HR3.out.set_ (v := .string p) (p := ⟨w.heap.size + 1, 0, none⟩) (HGB.out))
                              go_wp2_with (go_at_call 40; refine (N'.out _).mono ?_; rintro e w' ⟨rfl, rfl⟩)
                              go_roundw
                              case rel => exact ⟨0 + 1, _, _, _, by omega, by go_num, PN.out, HRN.out, Lib.hid ⟨HST.out, G.out⟩⟩
                              case measure => simp [intOf]; omega
                            · have G := Lib.hid (getU_step1 hlt3 hst.out.2 hpl2.out)
                              have PN := Lib.hid (PQ'.out.set1 p)
                              have HRN := Lib.hid (HR3.out.set_ (v := .string p) (p := ⟨w.heap.size + 1, 1, none⟩) (HGB.out))
                              go_wp2_with (go_at_call 40; refine (N'.out _).mono ?_; rintro e w' ⟨rfl, rfl⟩)
                              go_roundw
                              case rel => exact ⟨1 + 1, _, _, _, by omega, by go_num, PN.out, HRN.out, Lib.hid ⟨HST.out, G.out⟩⟩
                              case measure => simp [intOf]; omega
                            · have G := Lib.hid (getU_step2 hlt3 hst.out.2 hpl2.out)
                              have PN := Lib.hid (PQ'.out.set2 p)
                              have HRN := Lib.hid (HR3.out.set_ (v := .string p) (p := ⟨w.heap.size + 1, 2, none⟩) (HGB.out))
                              go_wp2_with (go_at_call 40; refine (N'.out _).mono ?_; rintro e w' ⟨rfl, rfl⟩)
                              go_roundw
                              case rel => exact ⟨2 + 1, _, _, _, by omega, by go_num, PN.out, HRN.out, Lib.hid ⟨HST.out, G.out⟩⟩
                              case measure => simp [intOf]; omega
                        · have hkl : k = L.length := by omega
                          have HST := Lib.hid hst.out
                          have E : Hid (readV (c :: r) = some ⟨L.getD 0 [48], L.getD 1 [48], L.getD 2 [48], pre.data.toList, pl.data.toList, L.length⟩) := Lib.hid (by
                            rw [RL.out, if_pos (by have := HST.out.1; rw [hkl, List.take_of_length_le (Nat.le_refl _)] at this; exact this)])
                          have HE := Lib.hid hst.out.2
                          rw [hkl] at HE
                          have PQ' := Lib.hid PQ
                          clear hkl PQ hst HST
                          go_wp2
                          refine bodyPost_ret (v := .tuple #[rvAgg a0 a1 a2 pre pl L.length, .bool true]) (by simp [rvAgg, results, Try.results25, go_sem, c0, c1, c2, c3, c4, c5, d0, d1, d2, d3, d4, d5, hf0, hf1]) rfl ⟨?_, PQ'.out.end6 _ _ _ _ _ _⟩
                          unfold RvE
                          rw [E.out]
                          show Ending.returned _ = Ending.returned _
                          have e := HE.out
                          simp only [getU_all] at e
                          rw [tx_of, tx_of, e.1, e.2.1, e.2.2]
              · have e45 : ((v1[k2].toNat : Int) == 45) = false := by simpa using h45
                have HN : Hid (∀ c ∈ v1.data.toList.take (k2 + 1), nd c = true) := Lib.hid (by
                  rw [take_snoc v1 k2 hv1k]; intro c hc
                  rcases List.mem_append.1 hc with hc | hc
                  · exact hall2.out c hc
                  · simp at hc; rw [hc]; unfold nd; simp; exact byte_ne' (n := 45) h45)
                clear h45
                go_wp2
                go_round
                case rel => exact ⟨k2 + 1, by omega, by go_num, rfl, HN⟩
                case measure => simp [intOf]; omega
            · have hA := takeWhile_at (p := nd) (l := v1.data.toList) (k := k2) hall2.out (.inl (by rw [size_len, HS1.out]; omega))
              rw [take_all v1 k2 (by rw [HS1.out]; omega)] at hA
              rw [List.drop_of_length_le (by rw [size_len, HS1.out]; omega)] at hA
              have HV2 : Hid (v1.data.toList = (r.takeWhile np).takeWhile nd) := Lib.hid (by rw [← HA1.out]; exact hA.1.symm)
              obtain ⟨pre, hpre⟩ : ∃ pre : ByteArray, pre = ⟨#[]⟩ := ⟨_, rfl⟩
              have HPRE : Hid (pre.data.toList = (r.takeWhile np).dropWhile nd) := Lib.hid (by rw [← HA1.out, hA.2, hpre])
              have hv2s : v1.size ≤ 4294967296 := by rw [HS1.out]; omega
              have hpres : pre.size ≤ 4294967296 := by rw [hpre]; decide
              have hprez : pre.toList.isEmpty = true := by rw [hpre, Lib.toList_data]; rfl
              have PX : Hid (RS w W 46 ⟨#[48]⟩ ⟨#[48]⟩ ⟨#[48]⟩ pre pl 0) := Lib.hid (by rw [hpre]; exact PW)
              clear hA hall2 hpre PW
              go_wp2_with fail
              refine (cut_new _ 46 _ hv2s).mono ?_
              rintro e W3 ⟨g, cap, rfl, hrow, hb, hgB⟩
              have HGB : Hid (g ≠ w.heap.size + 1) := Lib.hid (gt_ne PX.out.lt hgB)
              have PW3 := PX.out.call hb
              clear hb PX
              obtain ⟨v2, hv2⟩ : ∃ v2, v2 = v1 := ⟨v1, rfl⟩
              subst hv2
              -- both texts behind are cut off
              have EQ : Hid (readV (c :: r) = readL (cutL v2.data.toList 46) pre.data.toList pl.data.toList) := Lib.hid (by
                unfold readV; rw [if_pos (by simp [HC118.out]), HV2.out, HPRE.out, HPL.out]; rfl)
              have hsz : ∀ x ∈ cutL v2.data.toList 46, x.length ≤ v2.size := by have := cutL_size v2.data.toList 46; simpa using this
              have hlen : (cutL v2.data.toList 46).length ≤ v2.size + 1 := by have := cutL_len v2.data.toList 46; simpa using this
              have hne := List.length_pos_iff.2 (cutL_ne v2.data.toList 46)
              have EQ := Lib.hid EQ.out
              generalize cutL v2.data.toList 46 = L at *
              have HSZ := Lib.hid hsz
              have HEQ := Lib.hid EQ.out
              clear EQ hsz
              obtain ⟨c0, c1, c2, c3, c4, c5⟩ := PW3.cells1
              obtain ⟨d0, d1, d2, d3, d4, d5⟩ := PW3.cells0
              have hf1 := PW3.free1
              have hf0 := PW3.free0
              have P5 := Lib.hid (PW3.set5 (L.length : Int))
              have HROW := Lib.hid hrow
              clear PW3 hrow
              by_cases hn3 : 3 < L.length
              · have E : Hid (readV (c :: r) = none) := Lib.hid (by rw [HEQ.out]; unfold readL; rw [if_pos (.inl hn3)])
                go_wp2
                refine bodyPost_ret (v := .tuple #[rvAgg ⟨#[48]⟩ ⟨#[48]⟩ ⟨#[48]⟩ pre pl L.length, .bool false]) (by simp [rvAgg, results, Try.results25, go_sem, c0, c1, c2, c3, c4, c5, d0, d1, d2, d3, d4, d5, hf0, hf1]) rfl ⟨RvE.no E.out _ _ _ _ _ _, P5.out.end6 _ _ _ _ _ _⟩
              · have hcat : (pre ++ pl).toList.isEmpty = true := cat_empty hprez hplz
                have RL : Hid (readV (c :: r) = if L.all numB = true then some ⟨L.getD 0 [48], L.getD 1 [48], L.getD 2 [48], pre.data.toList, pl.data.toList, L.length⟩ else none) := Lib.hid (by
                  rw [HEQ.out]; unfold readL; rw [if_neg]
                  rintro (h' | ⟨_, h' | h'⟩ | ⟨h', _⟩ | ⟨h', _⟩)
                  · exact hn3 h'
                  · exact h' (empty_str hprez)
                  · exact h' (empty_str hplz)
                  · exact h' (empty_str hprez)
                  · exact h' (empty_str hplz))
                have HN3 := Lib.hid hn3
                have hn3' : L.length ≤ 3 := by omega
                clear hn3
                by_cases hn2 : L.length < 3
                · go_wp2
                  have HROW2 := Lib.hid (HROW.out.set_ (v := .int .i64 L.length) (p := ⟨w.heap.size + 1, 5, none⟩) HGB.out)
                  have HR3 := HROW2
                  go_loopw [104] (fun i wr => ∃ (k : Nat) (a0 a1 a2 : ByteArray), k ≤ L.length ∧ i = .int .i64 k ∧ RS w wr 46 a0 a1 a2 pre pl L.length ∧ TxRow wr g L ∧ Hid ((L.take k).all numB = true ∧ a0 = tx (getU L k 0) ∧ a1 = tx (getU L k 1) ∧ a2 = tx (getU L k 2))) (fun i _ => L.length - (intOf i).toNat)
                  case atStart => exact ⟨0, ⟨#[48]⟩, ⟨#[48]⟩, ⟨#[48]⟩, Nat.zero_le _, rfl, P5.out, HR3.out, Lib.hid ⟨rfl, rfl, rfl, rfl⟩⟩
                  case round =>
                    obtain ⟨k, a0, a1, a2, hk, rfl, PQ, hr3, hst⟩ := hrel
                    clear c0 c1 c2 c3 c4 c5 d0 d1 d2 d3 d4 d5 hf1 hf0 HR3
                    obtain ⟨c0, c1, c2, c3, c4, c5⟩ := PQ.cells1
                    obtain ⟨d0, d1, d2, d3, d4, d5⟩ := PQ.cells0
                    have hf1 := PQ.free1
                    have hf0 := PQ.free0
                    by_cases hlt3 : k < L.length
                    · have hcell := hr3.at_ k hlt3
                      have hxs : (tx L[k]).size ≤ 4294967296 := by
                        rw [tx_size]; have := HSZ.out L[k] (List.getElem_mem hlt3); omega
                      obtain ⟨p, hp⟩ : ∃ p : ByteArray, p = tx L[k] := ⟨_, rfl⟩
                      have hpl2 := Lib.hid hp
                      rw [← hp] at hcell hxs
                      have HR3 := Lib.hid hr3
                      have PQ' := Lib.hid PQ
                      obtain ⟨nb, hnb⟩ : ∃ nb, numB p.data.toList = nb := ⟨_, rfl⟩
                      have N := fun wx => specnumber_any p wx hxs
                      rw [hnb] at N
                      have N' := Lib.hid N
                      have HNB : Hid (numB L[k] = nb) := Lib.hid (by rw [← hnb, hp, tx_data])
                      clear hp N hnb hr3 PQ
                      cases nb
                      · have E : Hid (readV (c :: r) = none) := Lib.hid (by rw [RL.out, if_neg]; intro h; rw [List.all_eq_true] at h; have := h _ (List.getElem_mem hlt3); rw [HNB.out] at this; cases this)
                        go_wp2_with (go_at_call 40; refine (N'.out _).mono ?_; rintro e w' ⟨rfl, rfl⟩)
                        refine bodyPost_ret (v := .tuple #[rvAgg a0 a1 a2 pre pl L.length, .bool false]) (by simp [rvAgg, results, Try.results25, go_sem, c0, c1, c2, c3, c4, c5, d0, d1, d2, d3, d4, d5, hf0, hf1]) rfl ⟨RvE.no E.out _ _ _ _ _ _, PQ'.out.end6 _ _ _ _ _ _⟩
                      · have HST : Hid ((L.take (k + 1)).all numB = true) := Lib.hid (by rw [List.take_succ_eq_append_getElem hlt3, List.all_append, hst.out.1]; simp [HNB.out])
                        have hk3 : k = 0 ∨ k = 1 ∨ k = 2 := by omega
                        rcases hk3 with rfl | rfl | rfl
                        · have G := Lib.hid (getU_step0 hlt3 hst.out.2 hpl2.out)
                          have PN := Lib.hid (PQ'.out.set0 p)
                          have HRN := Lib.hid (HR3.out.set_ (v := .string p) (p := ⟨w.heap.size + 1, 0, none⟩) (HGB.out))
                          go_wp2_with (go_at_call 40; refine (N'.out _).mono ?_; rintro e w' ⟨rfl, rfl⟩)
                          go_roundw
                          case rel => exact ⟨0 + 1, _, _, _, by omega, by go_num, PN.out, HRN.out, Lib.hid ⟨HST.out, G.out⟩⟩
                          case measure => simp [intOf]; omega
                        · have G := Lib.hid (getU_step1 hlt3 hst.out.2 hpl2.out)
                          have PN := Lib.hid (PQ'.out.set1 p)
                          have HRN := Lib.hid (HR3.out.set_ (v := .string p) (p := ⟨w.heap.size + 1, 1, none⟩) (HGB.out))
                          go_wp2_with (go_at_call 40; refine (N'.out _).mono ?_; rintro e w' ⟨rfl, rfl⟩)
                          go_roundw
                          case rel => exact ⟨1 + 1, _, _, _, by omega, by go_num, PN.out, HRN.out, Lib.hid ⟨HST.out, G.out⟩⟩
                          case measure => simp [intOf]; omega
                        · exact absurd hlt3 (by omega)
                    · have hkl : k = L.length := by omega
                      have HST := Lib.hid hst.out
                      have E : Hid (readV (c :: r) = some ⟨L.getD 0 [48], L.getD 1 [48], L.getD 2 [48], pre.data.toList, pl.data.toList, L.length⟩) := Lib.hid (by
                        rw [RL.out, if_pos (by have := HST.out.1; rw [hkl, List.take_of_length_le (Nat.le_refl _)] at this; exact this)])
                      have HE := Lib.hid hst.out.2
                      rw [hkl] at HE
                      have PQ' := Lib.hid PQ
                      clear hkl PQ hst HST
                      go_wp2
                      refine bodyPost_ret (v := .tuple #[rvAgg a0 a1 a2 pre pl L.length, .bool true]) (by simp [rvAgg, results, Try.results25, go_sem, c0, c1, c2, c3, c4, c5, d0, d1, d2, d3, d4, d5, hf0, hf1]) rfl ⟨?_, PQ'.out.end6 _ _ _ _ _ _⟩
                      unfold RvE
                      rw [E.out]
                      show Ending.returned _ = Ending.returned _
                      have e := HE.out
                      simp only [getU_all] at e
                      rw [tx_of, tx_of, e.1, e.2.1, e.2.2]
                · have hn2' : 3 ≤ L.length := by omega
                  clear hn2
                  go_wp2
                  have HROW2 := Lib.hid (HROW.out.set_ (v := .int .i64 L.length) (p := ⟨w.heap.size + 1, 5, none⟩) HGB.out)
                  have HR3 := HROW2
                  go_loopw [104] (fun i wr => ∃ (k : Nat) (a0 a1 a2 : ByteArray), k ≤ L.length ∧ i = .int .i64 k ∧ RS w wr 46 a0 a1 a2 pre pl L.length ∧ TxRow wr g L ∧ Hid ((L.take k).all numB = true ∧ a0 = tx (getU L k 0) ∧ a1 = tx (getU L k 1) ∧ a2 = tx (getU L k 2))) (fun i _ => L.length - (intOf i).toNat)
                  case atStart => exact ⟨0, ⟨#[48]⟩, ⟨#[48]⟩, ⟨#[48]⟩, Nat.zero_le _, rfl, P5.out, HR3.out, Lib.hid ⟨rfl, rfl, rfl, rfl⟩⟩
                  case round =>
                    obtain ⟨k, a0, a1, a2, hk, rfl, PQ, hr3, hst⟩ := hrel
                    clear c0 c1 c2 c3 c4 c5 d0 d1 d2 d3 d4 d5 hf1 hf0 HR3
                    obtain ⟨c0, c1, c2, c3, c4, c5⟩ := PQ.cells1
                    obtain ⟨d0, d1, d2, d3, d4, d5⟩ := PQ.cells0
                    have hf1 := PQ.free1
                    have hf0 := PQ.free0
                    by_cases hlt3 : k < L.length
                    · have hcell := hr3.at_ k hlt3
                      have hxs : (tx L[k]).size ≤ 4294967296 := by
                        rw [tx_size]; have := HSZ.out L[k] (List.getElem_mem hlt3); omega
                      obtain ⟨p, hp⟩ : ∃ p : ByteArray, p = tx L[k] := ⟨_, rfl⟩
                      have hpl2 := Lib.hid hp
                      rw [← hp] at hcell hxs
                      have HR3 := Lib.hid hr3
                      have PQ' := Lib.hid PQ
                      obtain ⟨nb, hnb⟩ : ∃ nb, numB p.data.toList = nb := ⟨_, rfl⟩
                      have N := fun wx => specnumber_any p wx hxs
                      rw [hnb] at N
                      have N' := Lib.hid N
                      have HNB : Hid (numB L[k] = nb) := Lib.hid (by rw [← hnb, hp, tx_data])
                      clear hp N hnb hr3 PQ
                      cases nb
                      · have E : Hid (readV (c :: r) = none) := Lib.hid (by rw [RL.out, if_neg]; intro h; rw [List.all_eq_true] at h; have := h _ (List.getElem_mem hlt3); rw [HNB.out] at this; cases this)
                        go_wp2_with (go_at_call 40; refine (N'.out _).mono ?_; rintro e w' ⟨rfl, rfl⟩)
                        refine bodyPost_ret (v := .tuple #[rvAgg a0 a1 a2 pre pl L.length, .bool false]) (by simp [rvAgg, results, Try.results25, go_sem, c0, c1, c2, c3, c4, c5, d0, d1, d2, d3, d4, d5, hf0, hf1]) rfl ⟨RvE.no E.out _ _ _ _ _ _, PQ'.out.end6 _ _ _ _ _ _⟩
                      · have HST : Hid ((L.take (k + 1)).all numB = true) := Lib.hid (by rw [List.take_succ_eq_append_getElem hlt3, List.all_append, hst.out.1]; simp [HNB.out])
                        have hk3 : k = 0 ∨ k = 1 ∨ k = 2 := by omega
                        rcases hk3 with rfl | rfl | rfl
                        · have G := Lib.hid (getU_step0 hlt3 hst.out.2 hpl2.out)
                          have PN := Lib.hid (PQ'.out.set0 p)
                          have HRN := Lib.hid (HR3.out.set_ (v := .string p) (p := ⟨w.heap.size + 1, 0, none⟩) (HGB.out))
                          go_wp2_with (go_at_call 40; refine (N'.out _).mono ?_; rintro e w' ⟨rfl, rfl⟩)
                          go_roundw
                          case rel => exact ⟨0 + 1, _, _, _, by omega, by go_num, PN.out, HRN.out, Lib.hid ⟨HST.out, G.out⟩⟩
                          case measure => simp [intOf]; omega
                        · have G := Lib.hid (getU_step1 hlt3 hst.out.2 hpl2.out)
                          have PN := Lib.hid (PQ'.out.set1 p)
                          have HRN := Lib.hid (HR3.out.set_ (v := .string p) (p := ⟨w.heap.size + 1, 1, none⟩) (HGB.out))
                          go_wp2_with (go_at_call 40; refine (N'.out _).mono ?_; rintro e w' ⟨rfl, rfl⟩)
                          go_roundw
                          case rel => exact ⟨1 + 1, _, _, _, by omega, by go_num, PN.out, HRN.out, Lib.hid ⟨HST.out, G.out⟩⟩
                          case measure => simp [intOf]; omega
                        · have G := Lib.hid (getU_step2 hlt3 hst.out.2 hpl2.out)
                          have PN := Lib.hid (PQ'.out.set2 p)
                          have HRN := Lib.hid (HR3.out.set_ (v := .string p) (p := ⟨w.heap.size + 1, 2, none⟩) (HGB.out))
                          go_wp2_with (go_at_call 40; refine (N'.out _).mono ?_; rintro e w' ⟨rfl, rfl⟩)
                          go_roundw
                          case rel => exact ⟨2 + 1, _, _, _, by omega, by go_num, PN.out, HRN.out, Lib.hid ⟨HST.out, G.out⟩⟩
                          case measure => simp [intOf]; omega
                    · have hkl : k = L.length := by omega
                      have HST := Lib.hid hst.out
                      have E : Hid (readV (c :: r) = some ⟨L.getD 0 [48], L.getD 1 [48], L.getD 2 [48], pre.data.toList, pl.data.toList, L.length⟩) := Lib.hid (by
                        rw [RL.out, if_pos (by have := HST.out.1; rw [hkl, List.take_of_length_le (Nat.le_refl _)] at this; exact this)])
                      have HE := Lib.hid hst.out.2
                      rw [hkl] at HE
                      have PQ' := Lib.hid PQ
                      clear hkl PQ hst HST
                      go_wp2
                      refine bodyPost_ret (v := .tuple #[rvAgg a0 a1 a2 pre pl L.length, .bool true]) (by simp [rvAgg, results, Try.results25, go_sem, c0, c1, c2, c3, c4, c5, d0, d1, d2, d3, d4, d5, hf0, hf1]) rfl ⟨?_, PQ'.out.end6 _ _ _ _ _ _⟩
                      unfold RvE
                      rw [E.out]
                      show Ending.returned _ = Ending.returned _
                      have e := HE.out
                      simp only [getU_all] at e
                      rw [tx_of, tx_of, e.1, e.2.1, e.2.2]
    · have e1 : ((s[0].toNat : Int) != 118) = true := by
        rw [hv h0]; simp; intro h; exact hc (UInt8.toNat_inj.1 (by show c.toNat = (118 : UInt8).toNat; simp; omega))
      have E : Hid (readV (c :: r) = none) := Lib.hid (by unfold readV; rw [if_neg (by simpa using hc)])
      clear hv hx hl hc
      go_enter Try.func25, Try.ntmps25
      go_wp2
      refine bodyPost_ret (v := .tuple #[rvAgg ⟨#[48]⟩ ⟨#[48]⟩ ⟨#[48]⟩ ⟨#[]⟩ ⟨#[]⟩ 0, .bool false]) (by simp [rvAgg, results, Try.results25, go_sem]) rfl ⟨RvE.no E.out _ _ _ _ _ _, below_al (below_al (Below.refl _ _) _) _⟩
end Go.Proofs.Ytdinaphcglmhoaa
