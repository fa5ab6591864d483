/-
  The walk of path.matchChunk: it ends, whatever the chunk; of a chunk without brackets and backslashes, and a text of ASCII, it is chunkM.
-/
import Derived.Test.YtdinaphcglmhoaaDoorChunkP
import Derived.Deep.LoopGhost
import Derived.Deep.DeepCutAuto
namespace Go.Proofs.YtdinaphcglmhoaaDoor
open Go.RowKit
set_option linter.unusedVariables false

theorem neg_any (c : ByteArray) : (∃ h : 0 < c.size, ((c[0].toNat : Int) == 94) = true) ∨ (∃ h : 0 < c.size, ((c[0].toNat : Int) == 94) = false) ∨ c.size ≤ 0 := by
  by_cases h : 0 < c.size
  · rcases bool_or ((c[0].toNat : Int) == 94) with h' | h'
    · exact .inl ⟨h, h'⟩
    · exact .inr (.inl ⟨h, h'⟩)
  · exact .inr (.inr (by omega))

set_option maxRecDepth 100000 in
set_option maxHeartbeats 16000000 in
theorem chunk_any (ch s : ByteArray) (w : World) (hG : Glo w) (hc : ch.size ≤ 4294967296) (hs : s.size ≤ 4294967296) :
    Calls Tryd.prog 26 #[.string ch, .string s] w (ChE ch.data.toList s.data.toList w) := by
  have HG0 := Lib.hid hG
  clear hG
  go_enter Tryd.func26, Tryd.ntmps26
  go_wp2
  go_loopg [0, 1, 7] ch.size (fun g q p f wr => ∃ (c t : ByteArray) (b : Bool), c.size ≤ g ∧ q = .string c ∧ p = .string t ∧ f = .bool b ∧ c.size ≤ ch.size ∧ t.size ≤ s.size ∧ Hid (Below w.heap.size w wr) ∧ Hid (Glo wr) ∧ Hid (Inv ch.data.toList s.data.toList c.data.toList t.data.toList b))
  case atStart => exact ⟨ch, s, false, Nat.le_refl _, rfl, rfl, rfl, Nat.le_refl _, Nat.le_refl _, Lib.hid (Below.refl _ _), HG0, Lib.hid (Inv.start _ _)⟩
  case round =>
    obtain ⟨c, t, b, hgk, rfl, rfl, rfl, hcs, hts, HB, HG, HI⟩ := hrel
    obtain ⟨g0, rfl⟩ : ∃ g0, g0 = gk := ⟨_, rfl⟩
    obtain ⟨wo, rfl⟩ : ∃ wo : World, wo = wr := ⟨_, rfl⟩
    by_cases h0 : 0 < c.size
    · have HI0 : Hid (Inv ch.data.toList s.data.toList (c[0] :: (c.extract 1 c.size).data.toList) t.data.toList b) := Lib.hid (by rw [← str_tail h0]; exact HI.out)
      have hxs : (c.extract 1 c.size).size ≤ ch.size := by simp; omega
      have e91 : ((c[0].toNat : Int) == 91) = (c[0] == 91) := ascii42 (b := 91) h0
      have e63 : ((c[0].toNat : Int) == 63) = (c[0] == 63) := ascii42 (b := 63) h0
      have e92 : ((c[0].toNat : Int) == 92) = (c[0] == 92) := ascii42 (b := 92) h0
      have E91 := Lib.hid e91
      have E63 := Lib.hid e63
      have E92 := Lib.hid e92
      clear HI e91 e63 e92
      go_upto_region 3 with (fail)
      go_cut [7] (fun f wx => ∃ b2 : Bool, f = .bool b2 ∧ wx = wo ∧ Hid (b2 = (b || decide (t.size ≤ 0))))
      case first =>
        cases b
        · by_cases ht0 : 0 < t.size
          · have et0 : ((t.size : Int) == 0) = false := beq_eq_false_iff_ne.2 (by omega)
            have F : Hid (false = (false || decide (t.size ≤ 0))) := Lib.hid (by rw [decide_eq_false (by omega)]; rfl)
            go_wp2_with fail
            go_meet
            case rel => exact ⟨false, rfl, rfl, F⟩
          · have et0 : ((t.size : Int) == 0) = true := beq_iff_eq.2 (by omega)
            have F : Hid (true = (false || decide (t.size ≤ 0))) := Lib.hid (by rw [decide_eq_true (by omega)]; rfl)
            go_wp2_with fail
            go_meet
            case rel => exact ⟨true, rfl, rfl, F⟩
        · go_wp2_with fail
          go_meet
          case rel => exact ⟨true, rfl, rfl, Lib.hid rfl⟩
      case rest =>
        obtain ⟨b2, rfl, rfl, HF⟩ := hcut
        by_cases x91 : c[0] = 91
        · have NS : Hid (¬ simP ch.data.toList) := Lib.hid (HI0.out.br (.inl x91))
          have t91 : ((c[0].toNat : Int) == 91) = true := by rw [E91.out]; simpa using x91
          clear x91 HI0
          go_upto_if 35 with (fail)
          go_cut [1, 8] (fun p r wx => ∃ (t' : ByteArray) (rr : Int), p = .string t' ∧ r = .int .i32 rr ∧ t'.size ≤ s.size ∧ Hid (Below w.heap.size w wx) ∧ Hid (Glo wx))
          case first =>
            cases b2
            · have hf := HF.out
              have ht0 : 0 < t.size := by
                cases b
                · rw [Bool.false_or] at hf
                  have := of_decide_eq_false hf.symm
                  omega
                · cases hf
              have HD := Lib.hid (dec_any t wc HG.out ht0)
              clear hf HF
              go_wp2_with fail
              refine HD.out.mono ?_
              rintro e w1 ⟨r, n, rfl, n1, n2, _, hb⟩
              have HG1 := Lib.hid (HG.out.below hb)
              have HB1 := Lib.hid (below_tr HB.out hb)
              clear hb
              go_wp2_with fail
              go_meet
              case rel => exact ⟨t.extract n t.size, r, rfl, rfl, by simp; omega, HB1, HG1⟩
            · go_wp2_with fail
              go_meet
              case rel => exact ⟨t, 0, rfl, rfl, hts, HB, HG⟩
          case rest =>
            obtain ⟨t', rr, rfl, rfl, ht', HB1, HG1⟩ := hcut
            obtain ⟨w1, rfl⟩ : ∃ w1 : World, w1 = wc := ⟨_, rfl⟩
            obtain ⟨cx, hcx⟩ : ∃ cx, cx = c.extract 1 c.size := ⟨_, rfl⟩
            have hcxs : cx.size + 1 ≤ c.size := by rw [hcx]; simp; omega
            go_upto_region 15 with (fail)
            rw [← hcx]
            clear hcx hxs
            go_cut [53] (fun x wx => ∃ bb : Bool, x = .bool bb ∧ wx = w1 ∧ (bb = true → 0 < cx.size))
            case first =>
              rcases neg_any cx with ⟨h1, h2⟩ | ⟨h1, h2⟩ | h1
              · go_wp2_with fail
                go_meet
                case rel => exact ⟨true, rfl, rfl, fun _ => h1⟩
              · go_wp2_with fail
                go_meet
                case rel => exact ⟨false, rfl, rfl, fun h => by cases h⟩
              · go_wp2_with fail
                go_meet
                case rel => exact ⟨false, rfl, rfl, fun h => by cases h⟩
            case rest =>
              obtain ⟨bb, rfl, rfl, hbb⟩ := hcut
              go_upto_if 53 with (fail)
              go_cut [0, 10] (fun q n wx => ∃ (c1 : ByteArray) (ng : Bool), q = .string c1 ∧ n = .bool ng ∧ c1.size ≤ cx.size ∧ wx = wc)
              case first =>
                cases bb
                · go_wp2_with fail
                  go_meet
                  case rel => exact ⟨cx, false, rfl, rfl, Nat.le_refl _, rfl⟩
                · have hb1 := hbb rfl
                  clear hbb
                  go_wp2_with fail
                  go_meet
                  case rel => exact ⟨cx.extract 1 cx.size, true, rfl, rfl, by simp, rfl⟩
              case rest =>
                obtain ⟨c1, ng, rfl, rfl, hc1, hwc⟩ := hcut
                obtain rfl := hwc
                clear hbb
                go_wp2_with fail
                go_loopg [0, 11, 12] c1.size (fun g q m nr wr => ∃ (c2 : ByteArray) (m2 : Bool) (k : Nat), c2.size ≤ g ∧ q = .string c2 ∧ m = .bool m2 ∧ nr = .int .i64 k ∧ c2.size + k + 1 ≤ c.size ∧ Hid (Below w.heap.size w wr) ∧ Hid (Glo wr))
                case atStart => exact ⟨c1, false, 0, Nat.le_refl _, rfl, rfl, rfl, by omega, HB1, HG1⟩
                case round =>
                  obtain ⟨c2, m2, k, hgk2, rfl, rfl, rfl, hk2, HB2, HG2⟩ := hrel
                  obtain ⟨w2, rfl⟩ : ∃ w2 : World, w2 = wr := ⟨_, rfl⟩
                  have hc2 : c2.size ≤ 4294967296 := by omega
                  go_upto_region 20 with (fail)
                  go_cut [67] (fun x wx => ∃ bb : Bool, x = .bool bb ∧ wx = w2 ∧ (bb = true → 0 < c2.size))
                  case first =>
                    have hA : (∃ h : 0 < c2.size, ((c2[0].toNat : Int) == 93) = true ∧ 0 < k) ∨ (∃ h : 0 < c2.size, ((c2[0].toNat : Int) == 93) = true ∧ k ≤ 0) ∨ (∃ h : 0 < c2.size, ((c2[0].toNat : Int) == 93) = false) ∨ c2.size ≤ 0 := by
                      by_cases h : 0 < c2.size
                      · rcases bool_or ((c2[0].toNat : Int) == 93) with h' | h'
                        · by_cases hk : 0 < k
                          · exact .inl ⟨h, h', hk⟩
                          · exact .inr (.inl ⟨h, h', by omega⟩)
                        · exact .inr (.inr (.inl ⟨h, h'⟩))
                      · exact .inr (.inr (.inr (by omega)))
                    rcases hA with ⟨h1, h2, h3⟩ | ⟨h1, h2, h3⟩ | ⟨h1, h2⟩ | h1
                    · go_wp2_with fail
                      go_meet
                      case rel => exact ⟨true, rfl, rfl, fun _ => h1⟩
                    · have e2 : decide (0 < k) = false := decide_eq_false (by omega)
                      go_wp2_with fail
                      go_meet
                      case rel => exact ⟨false, rfl, rfl, fun h => by cases h⟩
                    · go_wp2_with fail
                      go_meet
                      case rel => exact ⟨false, rfl, rfl, fun h => by cases h⟩
                    · go_wp2_with fail
                      go_meet
                      case rel => exact ⟨false, rfl, rfl, fun h => by cases h⟩
                  case rest =>
                    obtain ⟨bb, rfl, rfl, hbb⟩ := hcut
                    obtain ⟨w3, rfl⟩ : ∃ w3 : World, w3 = wc := ⟨_, rfl⟩
                    cases bb
                    · clear hbb
                      have ES := Lib.hid (esc_any c2 w3 HG2.out hc2)
                      go_wp2_with fail
                      refine ES.out.mono ?_
                      rintro e w4 ⟨lo, r1, err, rfl, herr, hb3⟩
                      have HG3 := Lib.hid (HG2.out.below hb3)
                      have HB3 := Lib.hid (below_tr HB2.out hb3)
                      clear hb3 ES
                      rcases herr with ⟨rfl, hr0, hr1⟩ | ⟨a, rfl⟩
                      · go_upto_region 27 with (fail)
                        go_upto_if 82 with (fail)
                        go_cut [0, 6, 14] (fun q er hi wx => ∃ (r2 : ByteArray) (ev : Value) (hv : Int), q = .string r2 ∧ er = ev ∧ hi = .int .i32 hv ∧ r2.size + 1 ≤ c2.size ∧ Hid (Below w.heap.size w wx) ∧ Hid (Glo wx))
                        case first =>
                          rcases bool_or ((r1[0].toNat : Int) == 45) with h45 | h45
                          · have hx1 : (r1.extract 1 r1.size).size ≤ 4294967296 := by simp; omega
                            have hx2 : (r1.extract 1 r1.size).size + 1 ≤ c2.size := by simp; omega
                            have ES2 := Lib.hid (esc_any (r1.extract 1 r1.size) w4 HG3.out hx1)
                            go_wp2_with fail
                            refine ES2.out.mono ?_
                            rintro e w5 ⟨hi, r2, err, rfl, herr, hb4⟩
                            have HG4 := Lib.hid (HG3.out.below hb4)
                            have HB4 := Lib.hid (below_tr HB3.out hb4)
                            clear hb4
                            rcases herr with ⟨rfl, hq0, hq1⟩ | ⟨a, rfl⟩
                            · have hq2 : r2.size + 1 ≤ c2.size := by omega
                              clear hq1
                              go_wp2_with fail
                              go_meet
                              case rel => exact ⟨r2, _, hi, rfl, rfl, rfl, hq2, HB4, HG4⟩
                            · go_wp2
                              go_ret3
                              exact ⟨⟨#[]⟩, false, _, rfl, .inr ⟨a, rfl⟩, Nat.zero_le _, fun h => absurd h NS.out, HB4.out⟩
                          · go_wp2_with fail
                            go_meet
                            case rel => exact ⟨r1, _, lo, rfl, rfl, rfl, by omega, HB3, HG3⟩
                        case rest =>
                          obtain ⟨r2, ev, hv, rfl, rfl, rfl, hq2, HB4, HG4⟩ := hcut
                          obtain ⟨w6, rfl⟩ : ∃ w6 : World, w6 = wc := ⟨_, rfl⟩
                          go_upto_region 31 with (fail)
                          go_cut [11] (fun m wx => ∃ m3 : Bool, m = .bool m3 ∧ wx = w6)
                          case first =>
                            cases m2
                            · by_cases l1 : lo ≤ rr
                              · by_cases l2 : rr ≤ hv
                                · go_wp2_with fail
                                  go_meet
                                  case rel => exact ⟨_, rfl, rfl⟩
                                · go_wp2_with fail
                                  go_meet
                                  case rel => exact ⟨_, rfl, rfl⟩
                              · go_wp2_with fail
                                go_meet
                                case rel => exact ⟨_, rfl, rfl⟩
                            · go_wp2_with fail
                              go_meet
                              case rel => exact ⟨_, rfl, rfl⟩
                          case rest =>
                            obtain ⟨m3, rfl, rfl⟩ := hcut
                            go_wp2_with fail
                            go_roundg r2.size
                            case rel => exact ⟨r2, m3, k + 1, Nat.le_refl _, rfl, rfl, by go_num, by omega, HB4, HG4⟩
                            case measure => omega
                      · go_wp2
                        go_ret3
                        exact ⟨⟨#[]⟩, false, _, rfl, .inr ⟨a, rfl⟩, Nat.zero_le _, fun h => absurd h NS.out, HB3.out⟩
                    · have h2 := hbb rfl
                      clear hbb
                      go_upto_region 33 with (fail)
                      go_cut [7] (fun f wx => ∃ f3 : Bool, f = .bool f3 ∧ wx = w3)
                      case first =>
                        cases b2
                        · cases m2 <;> cases ng
                          all_goals
                            go_wp2_with fail
                            go_meet
                            case rel => exact ⟨_, rfl, rfl⟩
                        · go_wp2_with fail
                          go_meet
                          case rel => exact ⟨_, rfl, rfl⟩
                      case rest =>
                        obtain ⟨f3, rfl, rfl⟩ := hcut
                        go_wp2_with fail
                        go_roundg (c2.extract 1 c2.size).size
                        case rel => exact ⟨c2.extract 1 c2.size, t', f3, Nat.le_refl _, rfl, rfl, rfl, by simp; omega, ht', HB2, HG2, Lib.hid (Inv.any NS.out)⟩
                        case measure => simp; omega
        · have t91 : ((c[0].toNat : Int) == 91) = false := by rw [E91.out]; simpa using x91
          cases b2
          · have hf := HF.out
            have hbf : b = false ∧ 0 < t.size := by
              cases b
              · refine ⟨rfl, ?_⟩
                rw [Bool.false_or] at hf
                have := of_decide_eq_false hf.symm
                omega
              · cases hf
            obtain ⟨rfl, ht0⟩ := hbf
            clear hf HF
            have HD := Lib.hid (fun wx (h : Glo wx) => dec_any t wx h ht0)
            have ht1 : (t.extract 1 t.size).size ≤ s.size := by simp; omega
            have HT := Lib.hid (str_tail ht0)
            by_cases x63 : c[0] = 63
            · have t63 : ((c[0].toNat : Int) == 63) = true := by rw [E63.out]; simpa using x63
              rcases bool_or ((t[0].toNat : Int) == 47) with k47 | k47
              · have N : ∀ t' : Bs, Hid (Inv ch.data.toList s.data.toList (c.extract 1 c.size).data.toList t' true) := fun t' => Lib.hid (by
                  have h := HI0.out
                  rw [HT.out] at h
                  refine h.no ?_
                  rw [x63]; unfold oneB
                  have : t[0] = 47 := byte_eq (b := 47) k47
                  rw [this]; rfl)
                have N' := Lib.hid N
                clear x91 x63 N
                go_wp2_with fail
                refine (HD.out _ HG.out).mono ?_
                rintro e w1 ⟨r, n, rfl, n1, n2, _, hb⟩
                have HG1 := Lib.hid (HG.out.below hb)
                have HB1 := Lib.hid (below_tr HB.out hb)
                clear hb
                go_wp2
                go_roundg (c.extract 1 c.size).size
                case rel => exact ⟨c.extract 1 c.size, t.extract n t.size, true, Nat.le_refl _, rfl, rfl, rfl, hxs, by simp; omega, HB1, HG1, N'.out _⟩
                case measure => simp; omega
              · have N : Hid (simP ch.data.toList → asciiB s.data.toList = true → (t[0].toNat : Int) < 128) := Lib.hid (fun hsim ha => by
                  have h := (((HI0.out hsim).2 ha).1 rfl).2
                  rw [HT.out] at h
                  unfold asciiB at h
                  rw [List.all_cons, Bool.and_eq_true] at h
                  exact of_decide_eq_true h.1)
                have N2 : Hid (Inv ch.data.toList s.data.toList (c.extract 1 c.size).data.toList (t.extract 1 t.size).data.toList false) := Lib.hid (by
                  have h := HI0.out
                  rw [HT.out] at h
                  refine h.one ?_
                  rw [x63]; unfold oneB
                  have : t[0] ≠ 47 := byte_ne (b := 47) k47
                  simp [this])
                clear x91 x63
                go_wp2_with fail
                refine (HD.out _ HG.out).mono ?_
                rintro e w1 ⟨r, n, rfl, n1, n2, hn, hb⟩
                have N3 : Hid (Inv ch.data.toList s.data.toList (c.extract 1 c.size).data.toList (t.extract n t.size).data.toList false) := Lib.hid (fun hsim => by
                  refine ⟨(N2.out hsim).1, fun ha => ?_⟩
                  have e1 : n = 1 := hn ht0 (N.out hsim ha)
                  rw [ext_n1 e1]; exact (N2.out hsim).2 ha)
                have HG1 := Lib.hid (HG.out.below hb)
                have HB1 := Lib.hid (below_tr HB.out hb)
                clear hb hn
                go_wp2
                go_roundg (c.extract 1 c.size).size
                case rel => exact ⟨c.extract 1 c.size, t.extract n t.size, false, Nat.le_refl _, rfl, rfl, rfl, hxs, by simp; omega, HB1, HG1, N3⟩
                case measure => simp; omega
            · have t63 : ((c[0].toNat : Int) == 63) = false := by rw [E63.out]; simpa using x63
              by_cases x92 : c[0] = 92
              · have NS : Hid (¬ simP ch.data.toList) := Lib.hid (HI0.out.br (.inr x92))
                have t92 : ((c[0].toNat : Int) == 92) = true := by rw [E92.out]; simpa using x92
                clear x91 x63 x92
                obtain ⟨a, hE⟩ := HG.out.err
                by_cases h1 : c.size = 1
                · have hz : c.size - 1 = 0 := by omega
                  have hz' : c.size ≤ 1 := by omega
                  clear h1 hxs
                  go_wp2
                  go_quiet (fail)
                  go_wp2
                  go_ret3
                  exact ⟨⟨#[]⟩, false, _, rfl, .inr ⟨a, rfl⟩, Nat.zero_le _, fun h => absurd h NS.out, below_dq HB.out _⟩
                · have h1' : 1 < c.size := by omega
                  have hq1 : 0 < (c.extract 1 c.size).size := by simp; omega
                  have hq2 : 0 < c.size - 1 := by omega
                  have em1 : (((c.size - 1 : Nat) : Int) == 0) = false := beq_eq_false_iff_ne.2 (by omega)
                  have em2 : ((c.size - 1 : Nat) == 0) = false := beq_eq_false_iff_ne.2 (by omega)
                  have HE := Lib.hid hE
                  clear hE h1
                  go_wp2
                  go_quiet (fail)
                  go_wp2
                  all_goals
                    go_roundg (c.size - 1)
                    case rel => exact ⟨_, t.extract 1 t.size, _, by simp, rfl, rfl, rfl, by simp; omega, ht1, Lib.hid (below_dq HB.out _), Lib.hid (HG.out.below (below_dq (Below.refl _ _) _)), Lib.hid (Inv.any NS.out)⟩
                    case measure => omega
              · have t92 : ((c[0].toNat : Int) == 92) = false := by rw [E92.out]; simpa using x92
                rcases bool_or ((c[0].toNat : Int) != (t[0].toNat : Int)) with kk | kk
                · have N2 : Hid (Inv ch.data.toList s.data.toList (c.extract 1 c.size).data.toList (t.extract 1 t.size).data.toList true) := Lib.hid (by
                    have h := HI0.out
                    rw [HT.out] at h
                    refine h.no ?_
                    unfold oneB
                    have h1 : (c[0] == 63) = false := by simpa using x63
                    have h2 : (c[0] == t[0]) = false := by
                      rw [beq_eq_false_iff_ne]; intro e; rw [e] at kk; simp at kk
                    rw [h1, h2]; rfl)
                  clear x91 x63 x92
                  go_wp2
                  go_quiet (fail)
                  go_wp2
                  go_roundg (c.extract 1 c.size).size
                  case rel => exact ⟨c.extract 1 c.size, t.extract 1 t.size, true, Nat.le_refl _, rfl, rfl, rfl, hxs, ht1, Lib.hid (below_dq HB.out _), Lib.hid (HG.out.below (below_dq (Below.refl _ _) _)), N2⟩
                  case measure => simp; omega
                · have N2 : Hid (Inv ch.data.toList s.data.toList (c.extract 1 c.size).data.toList (t.extract 1 t.size).data.toList false) := Lib.hid (by
                    have h := HI0.out
                    rw [HT.out] at h
                    refine h.one ?_
                    unfold oneB
                    have h2 : (c[0] == t[0]) = true := by
                      rw [beq_iff_eq]
                      have : (c[0].toNat : Int) = (t[0].toNat : Int) := by simpa using kk
                      exact UInt8.toNat_inj.1 (by omega)
                    rw [h2]; simp)
                  clear x91 x63 x92
                  go_wp2
                  go_quiet (fail)
                  go_wp2
                  go_roundg (c.extract 1 c.size).size
                  case rel => exact ⟨c.extract 1 c.size, t.extract 1 t.size, false, Nat.le_refl _, rfl, rfl, rfl, hxs, ht1, Lib.hid (below_dq HB.out _), Lib.hid (HG.out.below (below_dq (Below.refl _ _) _)), N2⟩
                  case measure => simp; omega
          · have NI : ∀ t' : Bs, Inv ch.data.toList s.data.toList (c.extract 1 c.size).data.toList t' true := by
              cases b
              · have hf := HF.out
                rw [Bool.false_or] at hf
                have htn : t.data.toList = [] := List.eq_nil_of_length_eq_zero (by rw [size_len]; have := of_decide_eq_true hf.symm; omega)
                have h := HI0.out
                rw [htn] at h
                exact fun t' => h.empty
              · exact fun t' => HI0.out.fail
            have NI' := Lib.hid NI
            clear NI HF
            by_cases x63 : c[0] = 63
            · have t63 : ((c[0].toNat : Int) == 63) = true := by rw [E63.out]; simpa using x63
              clear x91 x63
              go_wp2
              go_roundg (c.extract 1 c.size).size
              case rel => exact ⟨c.extract 1 c.size, t, true, Nat.le_refl _, rfl, rfl, rfl, hxs, hts, HB, HG, Lib.hid (NI'.out _)⟩
              case measure => simp; omega
            · have t63 : ((c[0].toNat : Int) == 63) = false := by rw [E63.out]; simpa using x63
              by_cases x92 : c[0] = 92
              · have NS : Hid (¬ simP ch.data.toList) := Lib.hid (HI0.out.br (.inr x92))
                have t92 : ((c[0].toNat : Int) == 92) = true := by rw [E92.out]; simpa using x92
                clear x91 x63 x92
                obtain ⟨a, hE⟩ := HG.out.err
                by_cases h1 : c.size = 1
                · have hz : c.size - 1 = 0 := by omega
                  have hz' : c.size ≤ 1 := by omega
                  clear h1 hxs
                  go_wp2
                  go_quiet (fail)
                  go_wp2
                  go_ret3
                  exact ⟨⟨#[]⟩, false, _, rfl, .inr ⟨a, rfl⟩, Nat.zero_le _, fun h => absurd h NS.out, below_dq HB.out _⟩
                · have h1' : 1 < c.size := by omega
                  have hq1 : 0 < (c.extract 1 c.size).size := by simp; omega
                  have hq2 : 0 < c.size - 1 := by omega
                  have em1 : (((c.size - 1 : Nat) : Int) == 0) = false := beq_eq_false_iff_ne.2 (by omega)
                  have em2 : ((c.size - 1 : Nat) == 0) = false := beq_eq_false_iff_ne.2 (by omega)
                  have HE := Lib.hid hE
                  clear hE h1
                  go_wp2
                  go_roundg (c.size - 1)
                  case rel => exact ⟨_, t, _, by simp, rfl, rfl, rfl, by simp; omega, hts, HB, HG, Lib.hid (Inv.any NS.out)⟩
                  case measure => omega
              · have t92 : ((c[0].toNat : Int) == 92) = false := by rw [E92.out]; simpa using x92
                clear x91 x63 x92
                go_wp2
                go_roundg (c.extract 1 c.size).size
                case rel => exact ⟨c.extract 1 c.size, t, true, Nat.le_refl _, rfl, rfl, rfl, hxs, hts, HB, HG, Lib.hid (NI'.out _)⟩
                case measure => simp; omega
    · have h0' : c.size ≤ 0 := by omega
      have hcn : c.data.toList = [] := List.eq_nil_of_length_eq_zero (by rw [size_len]; omega)
      clear h0
      cases b
      · have F : Hid (ChR ch.data.toList s.data.toList .nilIface true t.data.toList) := Lib.hid (fun h => ⟨rfl, fun ha => ⟨fun _ => by
          rw [(((HI.out h).2 ha).1 rfl).1, hcn]; rfl, fun e => (by cases e)⟩⟩)
        clear hcn
        go_wp2
        go_ret3
        exact ⟨t, true, .nilIface, rfl, .inl rfl, by rw [size_len]; exact hts, F.out, HB.out⟩
      · have F : Hid (ChR ch.data.toList s.data.toList .nilIface false (⟨#[]⟩ : ByteArray).data.toList) := Lib.hid (fun h => ⟨rfl, fun ha => ⟨fun e => (by cases e), fun _ => ((HI.out h).2 ha).2 rfl⟩⟩)
        clear hcn
        go_wp2
        go_ret3
        exact ⟨⟨#[]⟩, false, .nilIface, rfl, .inl rfl, Nat.zero_le _, F.out, HB.out⟩
end Go.Proofs.YtdinaphcglmhoaaDoor
