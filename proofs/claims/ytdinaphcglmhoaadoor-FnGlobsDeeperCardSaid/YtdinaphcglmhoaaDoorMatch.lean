/-
  The walk of path.Match.
-/
import Derived.Test.YtdinaphcglmhoaaDoorMatchP
import Derived.Test.YtdinaphcglmhoaaDoorChunk
import Derived.Laws.Externs
import Derived.Deep.LoopGhost
namespace Go.Proofs.YtdinaphcglmhoaaDoor
open Go.RowKit
set_option linter.unusedVariables false

theorem callIdx (s : ByteArray) (c : Int) (w : World) : (callFunc 25 #[.string s, .int .u8 c]).run Tryd.prog w = .ok (.value (.int .i64 (Lib.indexByte s.data.toList c.toNat.toUInt8))) w := by
  rw [run_callFunc_extern Tryd.func25 (by kernel_rfl) (by kernel_rfl) (by kernel_rfl) (e := Extern.BytealgIndexByte.indexByte) (by kernel_rfl), Lib.run_indexByteString]
  rfl

def MatchE (p s : Bs) (w : World) (e : Ending) (w' : World) : Prop := ∃ (b : Bool) (err : Value), e = .returned (.tuple #[.bool b, err]) ∧ MR p s b ∧ Below w.heap.size w w'
theorem err_ne {a : Addr} : (Value.iface 57 (.pointer (some a))) ≠ .nilIface := by intro h; cases h
theorem nil_iff (v : ByteArray) : (v.data.toList = [] ↔ v.size = 0) := by
  rw [← size_len]; exact List.length_eq_zero_iff.symm

set_option maxRecDepth 100000 in
set_option maxHeartbeats 16000000 in
theorem match_any (p s : ByteArray) (w : World) (hG : Glo w) (hp : p.size ≤ 4294967296) (hs : s.size ≤ 4294967296) :
    Calls Tryd.prog 19 #[.string p, .string s] w (MatchE p.data.toList s.data.toList w) := by
  have HG0 := Lib.hid hG
  clear hG
  go_enter Tryd.func19, Tryd.ntmps19
  go_wp2
  go_step3
  go_wp2
  go_step3
  go_wp2
  go_loopg [0, 1] p.size (fun g q n wr => ∃ (c t : ByteArray), c.size ≤ g ∧ q = .string c ∧ n = .string t ∧ c.size ≤ p.size ∧ t.size ≤ s.size ∧ Hid (Below w.heap.size w wr) ∧ Hid (Glo wr) ∧ Hid (MI p.data.toList s.data.toList c.data.toList t.data.toList))
  case atStart => exact ⟨p, s, Nat.le_refl _, rfl, rfl, Nat.le_refl _, Nat.le_refl _, Lib.hid (Below.refl _ _), HG0, Lib.hid (MI.start _ _)⟩
  case round =>
    obtain ⟨c, t, hgk, rfl, rfl, hcs, hts, HB, HG, HI⟩ := hrel
    obtain ⟨g0, rfl⟩ : ∃ g0, g0 = gk := ⟨_, rfl⟩
    obtain ⟨wo, rfl⟩ : ∃ wo : World, wo = wr := ⟨_, rfl⟩
    by_cases h0 : 0 < c.size
    · have hc4 : c.size ≤ 4294967296 := by omega
      have ht4 : t.size ≤ 4294967296 := by omega
      have SC := Lib.hid (scan_any c wo hc4)
      go_wp2_with fail
      refine SC.out.mono ?_
      rintro e w1 ⟨st, ch, rest, rfl, hch, hrs, hrl, hsr, hb⟩
      have SR : Hid (ScR c.data.toList st ch.data.toList rest.data.toList) := Lib.hid hsr
      rw [size_len] at hch hrs hrl
      have hrl' := hrl h0
      have HG1 := Lib.hid (HG.out.below hb)
      have HB1 := Lib.hid (below_tr HB.out hb)
      clear hb hsr hrl hrs SC
      by_cases hA : st = true ∧ ch.toList.isEmpty = true
      · obtain ⟨rfl, hce⟩ := hA
        obtain ⟨n, hn⟩ : ∃ n, Lib.indexByte t.data.toList 47 = n := ⟨_, rfl⟩
        have hx : ∀ wx, (callFunc 25 #[.string t, .int .u8 47]).run Tryd.prog wx = .ok (.value (.int .i64 n)) wx := fun wx => by rw [callIdx, ← hn]; rfl
        have R : Hid (MR p.data.toList s.data.toList (decide (n < 0))) := Lib.hid (by
          have := HI.out.stars SR.out (by rw [Lib.toList_data] at hce; exact List.isEmpty_iff.1 hce)
          have e : decide (n < 0) = decide (47 ∉ t.data.toList) := by
            rw [← hn, Bool.eq_iff_iff, decide_eq_true_eq, decide_eq_true_eq]; exact idx_neg _ _
          rw [e]; exact this)
        clear hn
        go_wp2
        try rw [Exit.noGoto_ret]
        go_ret2
        exact ⟨decide (n < 0), .nilIface, rfl, R.out, HB1.out⟩
      · have hA' : st = false ∨ (st = true ∧ ch.toList.isEmpty = false) := by
          cases st
          · exact .inl rfl
          · right; refine ⟨rfl, ?_⟩
            cases h : ch.toList.isEmpty
            · rfl
            · exact absurd ⟨rfl, h⟩ hA
        clear hA
        have hch4 : ch.size ≤ 4294967296 := by omega
        have CK := Lib.hid (fun (x : ByteArray) (hx : x.size ≤ 4294967296) wx (h : Glo wx) => chunk_any ch x wx h hch4 hx)
        rcases hA' with rfl | ⟨rfl, hce⟩
        · go_wp2_with fail
          refine (CK.out t ht4 _ HG1.out).mono ?_
          rintro e w2 ⟨t1, ok, err, rfl, herr, ht1, hcr, hb⟩
          have CR := Lib.hid hcr
          have HG2 := Lib.hid (HG1.out.below hb)
          have HB2 := Lib.hid (below_tr HB1.out hb)
          rw [size_len] at ht1
          clear hb hcr
          have cases4 : (ok = true ∧ t1.size ≤ 0) ∨ (ok = true ∧ 0 < t1.size ∧ 0 < rest.size) ∨ (ok = true ∧ 0 < t1.size ∧ rest.size ≤ 0) ∨ ok = false := by
            cases ok
            · exact .inr (.inr (.inr rfl))
            · rcases Nat.eq_zero_or_pos t1.size with h | h
              · exact .inl ⟨rfl, by omega⟩
              · rcases Nat.eq_zero_or_pos rest.size with h' | h'
                · exact .inr (.inr (.inl ⟨rfl, h, by omega⟩))
                · exact .inr (.inl ⟨rfl, h, h'⟩)
          rcases cases4 with ⟨rfl, z1⟩ | ⟨rfl, z1, z2⟩ | ⟨rfl, z1, z2⟩ | rfl
          · have M : Hid (MI p.data.toList s.data.toList rest.data.toList t1.data.toList) := Lib.hid (HI.out.acc SR.out CR.out (.inl ((nil_iff t1).2 (by omega))))
            have e1 : ((t1.size : Int) == 0) = true := beq_iff_eq.2 (by omega)
            go_wp2
            go_roundg rest.size
            case rel => exact ⟨rest, t1, Nat.le_refl _, rfl, rfl, by omega, by omega, HB2, HG2, M⟩
            case measure => omega
          · have M : Hid (MI p.data.toList s.data.toList rest.data.toList t1.data.toList) := Lib.hid (HI.out.acc SR.out CR.out (.inr (fun e => by have := (nil_iff rest).1 e; omega)))
            have e1 : ((t1.size : Int) == 0) = false := beq_eq_false_iff_ne.2 (by omega)
            go_wp2
            go_roundg rest.size
            case rel => exact ⟨rest, t1, Nat.le_refl _, rfl, rfl, by omega, by omega, HB2, HG2, M⟩
            case measure => omega
          · have e2 : decide (0 < rest.size) = false := decide_eq_false (by omega)
            have NA : Hid (NotAcc true t1.data.toList rest.data.toList) := Lib.hid (.inr ⟨fun e => by have := (nil_iff t1).1 e; omega, (nil_iff rest).2 (by omega)⟩)
            have e1 : ((t1.size : Int) == 0) = false := beq_eq_false_iff_ne.2 (by omega)
            rcases herr with rfl | ⟨a, rfl⟩
            · have R : Hid (MR p.data.toList s.data.toList false) := Lib.hid (HI.out.no SR.out CR.out NA.out)
              go_wp2
              go_loopg [0] rest.size (fun g q wr => ∃ v : ByteArray, v.size ≤ g ∧ q = .string v ∧ v.size ≤ 4294967296 ∧ Hid (Below w.heap.size w wr) ∧ Hid (Glo wr))
              case atStart => exact ⟨rest, Nat.le_refl _, rfl, by omega, HB2, HG2⟩
              case round =>
                obtain ⟨v, hgv, rfl, hv4, HB7, HG7⟩ := hrel
                obtain ⟨w7, rfl⟩ : ∃ w7 : World, w7 = wr := ⟨_, rfl⟩
                by_cases hv : 0 < v.size
                · have SC7 := Lib.hid (scan_any v w7 hv4)
                  go_wp2_with fail
                  refine SC7.out.mono ?_
                  rintro e w8 ⟨st8, ch8, rest8, rfl, hch8, hrs8, hrl8, _, hb⟩
                  rw [size_len] at hch8 hrs8 hrl8
                  have hrl8' := hrl8 hv
                  have HG8 := Lib.hid (HG7.out.below hb)
                  have HB8 := Lib.hid (below_tr HB7.out hb)
                  clear hb hrl8
                  have hch84 : ch8.size ≤ 4294967296 := by omega
                  have CK8 := Lib.hid (chunk_any ch8 ⟨#[]⟩ w8 HG8.out hch84 (by decide))
                  go_wp2_with fail
                  refine CK8.out.mono ?_
                  rintro e w9 ⟨t9, ok9, err9, rfl, herr9, _, _, hb⟩
                  have HB9 := Lib.hid (below_tr HB8.out hb)
                  have HG9 := Lib.hid (HG8.out.below hb)
                  clear hb
                  rcases herr9 with rfl | ⟨a9, rfl⟩
                  · go_wp2
                    go_roundg rest8.size
                    case rel => exact ⟨rest8, Nat.le_refl _, rfl, by omega, HB9, HG9⟩
                    case measure => omega
                  · go_wp2
                    try rw [Exit.noGoto_ret]
                    go_ret2
                    exact ⟨false, _, rfl, R.out, HB9.out⟩
                · have hv' : v.size ≤ 0 := by omega
                  clear hv
                  go_wp2
                  try rw [Exit.noGoto_ret]
                  go_ret2
                  exact ⟨false, _, rfl, R.out, HB7.out⟩
            · have R : Hid (MR p.data.toList s.data.toList false) := Lib.hid (HI.out.err SR.out CR.out err_ne)
              go_wp2
              try rw [Exit.noGoto_ret]
              go_ret2
              exact ⟨false, _, rfl, R.out, HB2.out⟩
          · have NA : Hid (NotAcc false t1.data.toList rest.data.toList) := Lib.hid (.inl rfl)
            rcases herr with rfl | ⟨a, rfl⟩
            · have R : Hid (MR p.data.toList s.data.toList false) := Lib.hid (HI.out.no SR.out CR.out NA.out)
              go_wp2
              go_loopg [0] rest.size (fun g q wr => ∃ v : ByteArray, v.size ≤ g ∧ q = .string v ∧ v.size ≤ 4294967296 ∧ Hid (Below w.heap.size w wr) ∧ Hid (Glo wr))
              case atStart => exact ⟨rest, Nat.le_refl _, rfl, by omega, HB2, HG2⟩
              case round =>
                obtain ⟨v, hgv, rfl, hv4, HB7, HG7⟩ := hrel
                obtain ⟨w7, rfl⟩ : ∃ w7 : World, w7 = wr := ⟨_, rfl⟩
                by_cases hv : 0 < v.size
                · have SC7 := Lib.hid (scan_any v w7 hv4)
                  go_wp2_with fail
                  refine SC7.out.mono ?_
                  rintro e w8 ⟨st8, ch8, rest8, rfl, hch8, hrs8, hrl8, _, hb⟩
                  rw [size_len] at hch8 hrs8 hrl8
                  have hrl8' := hrl8 hv
                  have HG8 := Lib.hid (HG7.out.below hb)
                  have HB8 := Lib.hid (below_tr HB7.out hb)
                  clear hb hrl8
                  have hch84 : ch8.size ≤ 4294967296 := by omega
                  have CK8 := Lib.hid (chunk_any ch8 ⟨#[]⟩ w8 HG8.out hch84 (by decide))
                  go_wp2_with fail
                  refine CK8.out.mono ?_
                  rintro e w9 ⟨t9, ok9, err9, rfl, herr9, _, _, hb⟩
                  have HB9 := Lib.hid (below_tr HB8.out hb)
                  have HG9 := Lib.hid (HG8.out.below hb)
                  clear hb
                  rcases herr9 with rfl | ⟨a9, rfl⟩
                  · go_wp2
                    go_roundg rest8.size
                    case rel => exact ⟨rest8, Nat.le_refl _, rfl, by omega, HB9, HG9⟩
                    case measure => omega
                  · go_wp2
                    try rw [Exit.noGoto_ret]
                    go_ret2
                    exact ⟨false, _, rfl, R.out, HB9.out⟩
                · have hv' : v.size ≤ 0 := by omega
                  clear hv
                  go_wp2
                  try rw [Exit.noGoto_ret]
                  go_ret2
                  exact ⟨false, _, rfl, R.out, HB7.out⟩
            · have R : Hid (MR p.data.toList s.data.toList false) := Lib.hid (HI.out.err SR.out CR.out err_ne)
              go_wp2
              try rw [Exit.noGoto_ret]
              go_ret2
              exact ⟨false, _, rfl, R.out, HB2.out⟩
        · go_wp2_with fail
          refine (CK.out t ht4 _ HG1.out).mono ?_
          rintro e w2 ⟨t1, ok, err, rfl, herr, ht1, hcr, hb⟩
          have CR := Lib.hid hcr
          have HG2 := Lib.hid (HG1.out.below hb)
          have HB2 := Lib.hid (below_tr HB1.out hb)
          rw [size_len] at ht1
          clear hb hcr
          have cases4 : (ok = true ∧ t1.size ≤ 0) ∨ (ok = true ∧ 0 < t1.size ∧ 0 < rest.size) ∨ (ok = true ∧ 0 < t1.size ∧ rest.size ≤ 0) ∨ ok = false := by
            cases ok
            · exact .inr (.inr (.inr rfl))
            · rcases Nat.eq_zero_or_pos t1.size with h | h
              · exact .inl ⟨rfl, by omega⟩
              · rcases Nat.eq_zero_or_pos rest.size with h' | h'
                · exact .inr (.inr (.inl ⟨rfl, h, by omega⟩))
                · exact .inr (.inl ⟨rfl, h, h'⟩)
          rcases cases4 with ⟨rfl, z1⟩ | ⟨rfl, z1, z2⟩ | ⟨rfl, z1, z2⟩ | rfl
          · have M : Hid (MI p.data.toList s.data.toList rest.data.toList t1.data.toList) := Lib.hid (HI.out.acc SR.out CR.out (.inl ((nil_iff t1).2 (by omega))))
            have e1 : ((t1.size : Int) == 0) = true := beq_iff_eq.2 (by omega)
            go_wp2
            go_roundg rest.size
            case rel => exact ⟨rest, t1, Nat.le_refl _, rfl, rfl, by omega, by omega, HB2, HG2, M⟩
            case measure => omega
          · have M : Hid (MI p.data.toList s.data.toList rest.data.toList t1.data.toList) := Lib.hid (HI.out.acc SR.out CR.out (.inr (fun e => by have := (nil_iff rest).1 e; omega)))
            have e1 : ((t1.size : Int) == 0) = false := beq_eq_false_iff_ne.2 (by omega)
            go_wp2
            go_roundg rest.size
            case rel => exact ⟨rest, t1, Nat.le_refl _, rfl, rfl, by omega, by omega, HB2, HG2, M⟩
            case measure => omega
          · have e2 : decide (0 < rest.size) = false := decide_eq_false (by omega)
            have NA : Hid (NotAcc true t1.data.toList rest.data.toList) := Lib.hid (.inr ⟨fun e => by have := (nil_iff t1).1 e; omega, (nil_iff rest).2 (by omega)⟩)
            have e1 : ((t1.size : Int) == 0) = false := beq_eq_false_iff_ne.2 (by omega)
            rcases herr with rfl | ⟨a, rfl⟩
            · have N0 : Hid (NI p.data.toList s.data.toList c.data.toList t.data.toList 0) := Lib.hid (NI.start HI.out SR.out CR.out NA.out)
              clear NA CR
              go_wp2
              go_loopg [1, 11] t.size (fun g n i wr => ∃ k : Nat, k ≤ t.size ∧ t.size - k ≤ g ∧ n = .string t ∧ i = .int .i64 k ∧ Hid (Below w.heap.size w wr) ∧ Hid (Glo wr) ∧ Hid (NI p.data.toList s.data.toList c.data.toList t.data.toList k))
              case atStart => exact ⟨0, Nat.zero_le _, Nat.sub_le _ _, rfl, rfl, HB2, HG2, N0⟩
              case round =>
                obtain ⟨k, hk, hgt, rfl, rfl, HB3, HG3, HN⟩ := hrel
                obtain ⟨w3, rfl⟩ : ∃ w3 : World, w3 = wr := ⟨_, rfl⟩
                by_cases hlt : k < t.size
                · rcases bool_or ((t[k].toNat : Int) != 47) with k47 | k47
                  · have hx4 : (t.extract (k + 1) t.size).size ≤ 4294967296 := by simp; omega
                    have HAT := Lib.hid (byte_at' t k hlt)
                    have HNE : Hid (t[k] ≠ 47) := Lib.hid (by intro e; rw [e] at k47; exact absurd k47 (by decide))
                    have HX := Lib.hid (extract_drop t (k + 1))
                    have hxs : (t.extract (k + 1) t.size).data.toList.length ≤ s.size := by rw [size_len]; simp; omega
                    have CK3 := Lib.hid (CK.out (t.extract (k + 1) t.size) hx4 w3 HG3.out)
                    go_wp2_with fail
                    refine CK3.out.mono ?_
                    rintro e w4 ⟨t2, ok2, err2, rfl, herr2, ht2, hcr2, hb⟩
                    rw [HX.out] at hcr2
                    have CR2 := Lib.hid hcr2
                    have HG4 := Lib.hid (HG3.out.below hb)
                    have HB4 := Lib.hid (below_tr HB3.out hb)
                    have ht2' : t2.size ≤ s.size := by omega
                    clear hb hcr2 ht2 hxs CK3
                    have cases4 : (ok2 = true ∧ rest.size ≤ 0 ∧ 0 < t2.size) ∨ (ok2 = true ∧ rest.size ≤ 0 ∧ t2.size ≤ 0) ∨ (ok2 = true ∧ 0 < rest.size) ∨ ok2 = false := by
                      cases ok2
                      · exact .inr (.inr (.inr rfl))
                      · rcases Nat.eq_zero_or_pos rest.size with h | h
                        · rcases Nat.eq_zero_or_pos t2.size with h' | h'
                          · exact .inr (.inl ⟨rfl, by omega, by omega⟩)
                          · exact .inl ⟨rfl, by omega, h'⟩
                        · exact .inr (.inr (.inl ⟨rfl, h⟩))
                    rcases cases4 with ⟨rfl, z1, z2⟩ | ⟨rfl, z1, z2⟩ | ⟨rfl, z1⟩ | rfl
                    · have e1 : ((rest.size : Int) == 0) = true := beq_iff_eq.2 (by omega)
                      have N1 : Hid (NI p.data.toList s.data.toList c.data.toList t.data.toList (k + 1)) := Lib.hid (HN.out.step SR.out HAT.out HNE.out CR2.out (.inr ⟨fun e => by have := (nil_iff t2).1 e; omega, (nil_iff rest).2 (by omega)⟩))
                      go_wp2
                      go_roundg (t.size - (k + 1))
                      case rel => exact ⟨k + 1, by omega, Nat.le_refl _, rfl, by go_num, HB4, HG4, N1⟩
                      case measure => omega
                    · have e1 : ((rest.size : Int) == 0) = true := beq_iff_eq.2 (by omega)
                      have M : Hid (MI p.data.toList s.data.toList rest.data.toList t2.data.toList) := Lib.hid (HN.out.acc SR.out HAT.out HNE.out CR2.out (.inl ((nil_iff t2).2 (by omega))))
                      go_wp2
                      go_roundg rest.size
                      case rel => exact ⟨rest, t2, Nat.le_refl _, rfl, rfl, by omega, ht2', HB4, HG4, M⟩
                      case measure => omega
                    · have e1 : ((rest.size : Int) == 0) = false := beq_eq_false_iff_ne.2 (by omega)
                      have M : Hid (MI p.data.toList s.data.toList rest.data.toList t2.data.toList) := Lib.hid (HN.out.acc SR.out HAT.out HNE.out CR2.out (.inr (fun e => by have := (nil_iff rest).1 e; omega)))
                      go_wp2
                      go_roundg rest.size
                      case rel => exact ⟨rest, t2, Nat.le_refl _, rfl, rfl, by omega, ht2', HB4, HG4, M⟩
                      case measure => omega
                    · rcases herr2 with rfl | ⟨a2, rfl⟩
                      · have N1 : Hid (NI p.data.toList s.data.toList c.data.toList t.data.toList (k + 1)) := Lib.hid (HN.out.step SR.out HAT.out HNE.out CR2.out (.inl rfl))
                        go_wp2
                        go_roundg (t.size - (k + 1))
                        case rel => exact ⟨k + 1, by omega, Nat.le_refl _, rfl, by go_num, HB4, HG4, N1⟩
                        case measure => omega
                      · have R : Hid (MR p.data.toList s.data.toList false) := Lib.hid (HI.out.err SR.out CR2.out err_ne)
                        go_wp2
                        try rw [Exit.noGoto_ret]
                        go_ret2
                        exact ⟨false, _, rfl, R.out, HB4.out⟩
                  · have R : Hid (MR p.data.toList s.data.toList false) := Lib.hid (HN.out.stop (.inr (by rw [byte_at' t k hlt]; congr 1; exact byte_eq (b := 47) (by rw [bne_eq_false_iff_eq] at k47; rw [beq_iff_eq]; exact k47))))
                    go_wp2
                    go_loopg [0] rest.size (fun g q wr => ∃ v : ByteArray, v.size ≤ g ∧ q = .string v ∧ v.size ≤ 4294967296 ∧ Hid (Below w.heap.size w wr) ∧ Hid (Glo wr))
                    case atStart => exact ⟨rest, Nat.le_refl _, rfl, by omega, HB3, HG3⟩
                    case round =>
                      obtain ⟨v, hgv, rfl, hv4, HB7, HG7⟩ := hrel
                      obtain ⟨w7, rfl⟩ : ∃ w7 : World, w7 = wr := ⟨_, rfl⟩
                      by_cases hv : 0 < v.size
                      · have SC7 := Lib.hid (scan_any v w7 hv4)
                        go_wp2_with fail
                        refine SC7.out.mono ?_
                        rintro e w8 ⟨st8, ch8, rest8, rfl, hch8, hrs8, hrl8, _, hb⟩
                        rw [size_len] at hch8 hrs8 hrl8
                        have hrl8' := hrl8 hv
                        have HG8 := Lib.hid (HG7.out.below hb)
                        have HB8 := Lib.hid (below_tr HB7.out hb)
                        clear hb hrl8
                        have hch84 : ch8.size ≤ 4294967296 := by omega
                        have CK8 := Lib.hid (chunk_any ch8 ⟨#[]⟩ w8 HG8.out hch84 (by decide))
                        go_wp2_with fail
                        refine CK8.out.mono ?_
                        rintro e w9 ⟨t9, ok9, err9, rfl, herr9, _, _, hb⟩
                        have HB9 := Lib.hid (below_tr HB8.out hb)
                        have HG9 := Lib.hid (HG8.out.below hb)
                        clear hb
                        rcases herr9 with rfl | ⟨a9, rfl⟩
                        · go_wp2
                          go_roundg rest8.size
                          case rel => exact ⟨rest8, Nat.le_refl _, rfl, by omega, HB9, HG9⟩
                          case measure => omega
                        · go_wp2
                          try rw [Exit.noGoto_ret]
                          go_ret2
                          exact ⟨false, _, rfl, R.out, HB9.out⟩
                      · have hv' : v.size ≤ 0 := by omega
                        clear hv
                        go_wp2
                        try rw [Exit.noGoto_ret]
                        go_ret2
                        exact ⟨false, _, rfl, R.out, HB7.out⟩
                · have R : Hid (MR p.data.toList s.data.toList false) := Lib.hid (HN.out.stop (.inl (by rw [size_len]; omega)))
                  go_wp2
                  go_loopg [0] rest.size (fun g q wr => ∃ v : ByteArray, v.size ≤ g ∧ q = .string v ∧ v.size ≤ 4294967296 ∧ Hid (Below w.heap.size w wr) ∧ Hid (Glo wr))
                  case atStart => exact ⟨rest, Nat.le_refl _, rfl, by omega, HB3, HG3⟩
                  case round =>
                    obtain ⟨v, hgv, rfl, hv4, HB7, HG7⟩ := hrel
                    obtain ⟨w7, rfl⟩ : ∃ w7 : World, w7 = wr := ⟨_, rfl⟩
                    by_cases hv : 0 < v.size
                    · have SC7 := Lib.hid (scan_any v w7 hv4)
                      go_wp2_with fail
                      refine SC7.out.mono ?_
                      rintro e w8 ⟨st8, ch8, rest8, rfl, hch8, hrs8, hrl8, _, hb⟩
                      rw [size_len] at hch8 hrs8 hrl8
                      have hrl8' := hrl8 hv
                      have HG8 := Lib.hid (HG7.out.below hb)
                      have HB8 := Lib.hid (below_tr HB7.out hb)
                      clear hb hrl8
                      have hch84 : ch8.size ≤ 4294967296 := by omega
                      have CK8 := Lib.hid (chunk_any ch8 ⟨#[]⟩ w8 HG8.out hch84 (by decide))
                      go_wp2_with fail
                      refine CK8.out.mono ?_
                      rintro e w9 ⟨t9, ok9, err9, rfl, herr9, _, _, hb⟩
                      have HB9 := Lib.hid (below_tr HB8.out hb)
                      have HG9 := Lib.hid (HG8.out.below hb)
                      clear hb
                      rcases herr9 with rfl | ⟨a9, rfl⟩
                      · go_wp2
                        go_roundg rest8.size
                        case rel => exact ⟨rest8, Nat.le_refl _, rfl, by omega, HB9, HG9⟩
                        case measure => omega
                      · go_wp2
                        try rw [Exit.noGoto_ret]
                        go_ret2
                        exact ⟨false, _, rfl, R.out, HB9.out⟩
                    · have hv' : v.size ≤ 0 := by omega
                      clear hv
                      go_wp2
                      try rw [Exit.noGoto_ret]
                      go_ret2
                      exact ⟨false, _, rfl, R.out, HB7.out⟩
            · have R : Hid (MR p.data.toList s.data.toList false) := Lib.hid (HI.out.err SR.out CR.out err_ne)
              go_wp2
              try rw [Exit.noGoto_ret]
              go_ret2
              exact ⟨false, _, rfl, R.out, HB2.out⟩
          · have NA : Hid (NotAcc false t1.data.toList rest.data.toList) := Lib.hid (.inl rfl)
            rcases herr with rfl | ⟨a, rfl⟩
            · have N0 : Hid (NI p.data.toList s.data.toList c.data.toList t.data.toList 0) := Lib.hid (NI.start HI.out SR.out CR.out NA.out)
              clear NA CR
              go_wp2
              go_loopg [1, 11] t.size (fun g n i wr => ∃ k : Nat, k ≤ t.size ∧ t.size - k ≤ g ∧ n = .string t ∧ i = .int .i64 k ∧ Hid (Below w.heap.size w wr) ∧ Hid (Glo wr) ∧ Hid (NI p.data.toList s.data.toList c.data.toList t.data.toList k))
              case atStart => exact ⟨0, Nat.zero_le _, Nat.sub_le _ _, rfl, rfl, HB2, HG2, N0⟩
              case round =>
                obtain ⟨k, hk, hgt, rfl, rfl, HB3, HG3, HN⟩ := hrel
                obtain ⟨w3, rfl⟩ : ∃ w3 : World, w3 = wr := ⟨_, rfl⟩
                by_cases hlt : k < t.size
                · rcases bool_or ((t[k].toNat : Int) != 47) with k47 | k47
                  · have hx4 : (t.extract (k + 1) t.size).size ≤ 4294967296 := by simp; omega
                    have HAT := Lib.hid (byte_at' t k hlt)
                    have HNE : Hid (t[k] ≠ 47) := Lib.hid (by intro e; rw [e] at k47; exact absurd k47 (by decide))
                    have HX := Lib.hid (extract_drop t (k + 1))
                    have hxs : (t.extract (k + 1) t.size).data.toList.length ≤ s.size := by rw [size_len]; simp; omega
                    have CK3 := Lib.hid (CK.out (t.extract (k + 1) t.size) hx4 w3 HG3.out)
                    go_wp2_with fail
                    refine CK3.out.mono ?_
                    rintro e w4 ⟨t2, ok2, err2, rfl, herr2, ht2, hcr2, hb⟩
                    rw [HX.out] at hcr2
                    have CR2 := Lib.hid hcr2
                    have HG4 := Lib.hid (HG3.out.below hb)
                    have HB4 := Lib.hid (below_tr HB3.out hb)
                    have ht2' : t2.size ≤ s.size := by omega
                    clear hb hcr2 ht2 hxs CK3
                    have cases4 : (ok2 = true ∧ rest.size ≤ 0 ∧ 0 < t2.size) ∨ (ok2 = true ∧ rest.size ≤ 0 ∧ t2.size ≤ 0) ∨ (ok2 = true ∧ 0 < rest.size) ∨ ok2 = false := by
                      cases ok2
                      · exact .inr (.inr (.inr rfl))
                      · rcases Nat.eq_zero_or_pos rest.size with h | h
                        · rcases Nat.eq_zero_or_pos t2.size with h' | h'
                          · exact .inr (.inl ⟨rfl, by omega, by omega⟩)
                          · exact .inl ⟨rfl, by omega, h'⟩
                        · exact .inr (.inr (.inl ⟨rfl, h⟩))
                    rcases cases4 with ⟨rfl, z1, z2⟩ | ⟨rfl, z1, z2⟩ | ⟨rfl, z1⟩ | rfl
                    · have e1 : ((rest.size : Int) == 0) = true := beq_iff_eq.2 (by omega)
                      have N1 : Hid (NI p.data.toList s.data.toList c.data.toList t.data.toList (k + 1)) := Lib.hid (HN.out.step SR.out HAT.out HNE.out CR2.out (.inr ⟨fun e => by have := (nil_iff t2).1 e; omega, (nil_iff rest).2 (by omega)⟩))
                      go_wp2
                      go_roundg (t.size - (k + 1))
                      case rel => exact ⟨k + 1, by omega, Nat.le_refl _, rfl, by go_num, HB4, HG4, N1⟩
                      case measure => omega
                    · have e1 : ((rest.size : Int) == 0) = true := beq_iff_eq.2 (by omega)
                      have M : Hid (MI p.data.toList s.data.toList rest.data.toList t2.data.toList) := Lib.hid (HN.out.acc SR.out HAT.out HNE.out CR2.out (.inl ((nil_iff t2).2 (by omega))))
                      go_wp2
                      go_roundg rest.size
                      case rel => exact ⟨rest, t2, Nat.le_refl _, rfl, rfl, by omega, ht2', HB4, HG4, M⟩
                      case measure => omega
                    · have e1 : ((rest.size : Int) == 0) = false := beq_eq_false_iff_ne.2 (by omega)
                      have M : Hid (MI p.data.toList s.data.toList rest.data.toList t2.data.toList) := Lib.hid (HN.out.acc SR.out HAT.out HNE.out CR2.out (.inr (fun e => by have := (nil_iff rest).1 e; omega)))
                      go_wp2
                      go_roundg rest.size
                      case rel => exact ⟨rest, t2, Nat.le_refl _, rfl, rfl, by omega, ht2', HB4, HG4, M⟩
                      case measure => omega
                    · rcases herr2 with rfl | ⟨a2, rfl⟩
                      · have N1 : Hid (NI p.data.toList s.data.toList c.data.toList t.data.toList (k + 1)) := Lib.hid (HN.out.step SR.out HAT.out HNE.out CR2.out (.inl rfl))
                        go_wp2
                        go_roundg (t.size - (k + 1))
                        case rel => exact ⟨k + 1, by omega, Nat.le_refl _, rfl, by go_num, HB4, HG4, N1⟩
                        case measure => omega
                      · have R : Hid (MR p.data.toList s.data.toList false) := Lib.hid (HI.out.err SR.out CR2.out err_ne)
                        go_wp2
                        try rw [Exit.noGoto_ret]
                        go_ret2
                        exact ⟨false, _, rfl, R.out, HB4.out⟩
                  · have R : Hid (MR p.data.toList s.data.toList false) := Lib.hid (HN.out.stop (.inr (by rw [byte_at' t k hlt]; congr 1; exact byte_eq (b := 47) (by rw [bne_eq_false_iff_eq] at k47; rw [beq_iff_eq]; exact k47))))
                    go_wp2
                    go_loopg [0] rest.size (fun g q wr => ∃ v : ByteArray, v.size ≤ g ∧ q = .string v ∧ v.size ≤ 4294967296 ∧ Hid (Below w.heap.size w wr) ∧ Hid (Glo wr))
                    case atStart => exact ⟨rest, Nat.le_refl _, rfl, by omega, HB3, HG3⟩
                    case round =>
                      obtain ⟨v, hgv, rfl, hv4, HB7, HG7⟩ := hrel
                      obtain ⟨w7, rfl⟩ : ∃ w7 : World, w7 = wr := ⟨_, rfl⟩
                      by_cases hv : 0 < v.size
                      · have SC7 := Lib.hid (scan_any v w7 hv4)
                        go_wp2_with fail
                        refine SC7.out.mono ?_
                        rintro e w8 ⟨st8, ch8, rest8, rfl, hch8, hrs8, hrl8, _, hb⟩
                        rw [size_len] at hch8 hrs8 hrl8
                        have hrl8' := hrl8 hv
                        have HG8 := Lib.hid (HG7.out.below hb)
                        have HB8 := Lib.hid (below_tr HB7.out hb)
                        clear hb hrl8
                        have hch84 : ch8.size ≤ 4294967296 := by omega
                        have CK8 := Lib.hid (chunk_any ch8 ⟨#[]⟩ w8 HG8.out hch84 (by decide))
                        go_wp2_with fail
                        refine CK8.out.mono ?_
                        rintro e w9 ⟨t9, ok9, err9, rfl, herr9, _, _, hb⟩
                        have HB9 := Lib.hid (below_tr HB8.out hb)
                        have HG9 := Lib.hid (HG8.out.below hb)
                        clear hb
                        rcases herr9 with rfl | ⟨a9, rfl⟩
                        · go_wp2
                          go_roundg rest8.size
                          case rel => exact ⟨rest8, Nat.le_refl _, rfl, by omega, HB9, HG9⟩
                          case measure => omega
                        · go_wp2
                          try rw [Exit.noGoto_ret]
                          go_ret2
                          exact ⟨false, _, rfl, R.out, HB9.out⟩
                      · have hv' : v.size ≤ 0 := by omega
                        clear hv
                        go_wp2
                        try rw [Exit.noGoto_ret]
                        go_ret2
                        exact ⟨false, _, rfl, R.out, HB7.out⟩
                · have R : Hid (MR p.data.toList s.data.toList false) := Lib.hid (HN.out.stop (.inl (by rw [size_len]; omega)))
                  go_wp2
                  go_loopg [0] rest.size (fun g q wr => ∃ v : ByteArray, v.size ≤ g ∧ q = .string v ∧ v.size ≤ 4294967296 ∧ Hid (Below w.heap.size w wr) ∧ Hid (Glo wr))
                  case atStart => exact ⟨rest, Nat.le_refl _, rfl, by omega, HB3, HG3⟩
                  case round =>
                    obtain ⟨v, hgv, rfl, hv4, HB7, HG7⟩ := hrel
                    obtain ⟨w7, rfl⟩ : ∃ w7 : World, w7 = wr := ⟨_, rfl⟩
                    by_cases hv : 0 < v.size
                    · have SC7 := Lib.hid (scan_any v w7 hv4)
                      go_wp2_with fail
                      refine SC7.out.mono ?_
                      rintro e w8 ⟨st8, ch8, rest8, rfl, hch8, hrs8, hrl8, _, hb⟩
                      rw [size_len] at hch8 hrs8 hrl8
                      have hrl8' := hrl8 hv
                      have HG8 := Lib.hid (HG7.out.below hb)
                      have HB8 := Lib.hid (below_tr HB7.out hb)
                      clear hb hrl8
                      have hch84 : ch8.size ≤ 4294967296 := by omega
                      have CK8 := Lib.hid (chunk_any ch8 ⟨#[]⟩ w8 HG8.out hch84 (by decide))
                      go_wp2_with fail
                      refine CK8.out.mono ?_
                      rintro e w9 ⟨t9, ok9, err9, rfl, herr9, _, _, hb⟩
                      have HB9 := Lib.hid (below_tr HB8.out hb)
                      have HG9 := Lib.hid (HG8.out.below hb)
                      clear hb
                      rcases herr9 with rfl | ⟨a9, rfl⟩
                      · go_wp2
                        go_roundg rest8.size
                        case rel => exact ⟨rest8, Nat.le_refl _, rfl, by omega, HB9, HG9⟩
                        case measure => omega
                      · go_wp2
                        try rw [Exit.noGoto_ret]
                        go_ret2
                        exact ⟨false, _, rfl, R.out, HB9.out⟩
                    · have hv' : v.size ≤ 0 := by omega
                      clear hv
                      go_wp2
                      try rw [Exit.noGoto_ret]
                      go_ret2
                      exact ⟨false, _, rfl, R.out, HB7.out⟩
            · have R : Hid (MR p.data.toList s.data.toList false) := Lib.hid (HI.out.err SR.out CR.out err_ne)
              go_wp2
              try rw [Exit.noGoto_ret]
              go_ret2
              exact ⟨false, _, rfl, R.out, HB2.out⟩
    · have h0' : c.size ≤ 0 := by omega
      have R : Hid (MR p.data.toList s.data.toList (decide (t.size = 0))) := Lib.hid (by
        have h := HI.out
        rw [(nil_iff c).2 (by omega)] at h
        have := h.over
        rw [size_len] at this; exact this)
      by_cases ht : t.size = 0
      · have e1 : ((t.size : Int) == 0) = true := beq_iff_eq.2 (by omega)
        have R' : Hid (MR p.data.toList s.data.toList true) := Lib.hid (by rw [← decide_eq_true ht]; exact R.out)
        clear ht R h0
        go_wp2
        try rw [Exit.noGoto_ret]
        go_ret2
        exact ⟨true, _, rfl, R'.out, HB.out⟩
      · have e1 : ((t.size : Int) == 0) = false := beq_eq_false_iff_ne.2 (by omega)
        have R' : Hid (MR p.data.toList s.data.toList false) := Lib.hid (by rw [← decide_eq_false ht]; exact R.out)
        clear ht R h0
        go_wp2
        try rw [Exit.noGoto_ret]
        go_ret2
        exact ⟨false, _, rfl, R'.out, HB.out⟩
end Go.Proofs.YtdinaphcglmhoaaDoor
