/-
  The walk of spec.Cut.
-/
import Derived.Test.YtdinaphcglmhoaaCutP
import Derived.Test.YtdinaphcglmhoaaIn
namespace Go.Proofs.Ytdinaphcglmhoaa
open Go.RowKit

theorem Try.infoStr : (Try.prog.info? 9).map (fun i => (i.zero, i.size, i.bytes)) = some (some (.string ⟨#[]⟩), 1, 16) := by kernel_rfl

set_option maxHeartbeats 400000 in
theorem cut_new (s : ByteArray) (b : UInt8) (w : World) (hs : s.size ≤ 4294967296) :
    Calls Try.prog 23 #[.string s, .int .u8 b.toNat] w fun e w' => ∃ g cap, e = .returned (.slice (some ⟨g, 0, none⟩) (cutL s.data.toList b).length cap) ∧ TxRow w' g (cutL s.data.toList b) ∧ Below w.heap.size w w' ∧ w.heap.size ≤ g := by
  obtain ⟨i0, hi, hz0, hz1, hz2⟩ := info_parts Try.infoStr
  go_enter Try.func23, Try.ntmps23
  go_wp2
  go_loopw [5, 6, 11] (fun v f i wr => ∃ (k fr : Nat) (outs : List Bs) (cur : Bs), k ≤ s.size ∧ fr ≤ k ∧ i = .int .i64 k ∧ f = .int .i64 fr ∧ Hid (cutL (s.data.toList.take k) b = outs ++ [cur]) ∧ Hid (cur = (s.data.toList.take k).drop fr) ∧
      wr.ownsRow w.heap.size 9 1 v outs.length (outs.map vstr) ∧ outs.length ≤ k ∧ Below w.heap.size w wr) (fun _ _ i _ => s.size - (intOf i).toNat)
  case atStart =>
    refine ⟨0, 0, [], [], Nat.zero_le _, Nat.le_refl _, rfl, rfl, Lib.hid (by simp [cutL]), Lib.hid (by simp), ?_, Nat.le_refl _, below_al (Below.refl _ _) _⟩
    exact World.ownsRow_lit w #[] 0 (Nat.le_refl _) (Nat.zero_le _) rfl
  case round =>
    obtain ⟨k, fr, outs, cur, hk, hfr, rfl, rfl, hcut, hcur, hown, hol, hb⟩ := hrel
    by_cases hlt : k < s.size
    · by_cases hbk : s[k] = b
      · have e1 : ((s[k].toNat : Int) == (b.toNat : Int)) = true := by simp [hbk]
        go_wp2_with (at_builtin; refine wpList_append_own _ rfl _ _ 40 rfl w.heap.size 9 i0 (.string ⟨#[]⟩) 1 16 Try.underlying40 hi hz0 hz1 hz2 rfl (by decide) _ _ _ rfl (hown.alloc _) ⟨wr.heap.size, 0, none⟩ 1 1 [.string (s.extract fr k)] rfl rfl ?c1 ?c2 ?c3 ?c4 ?c5 ?_)
        case c1 => exact cell_one_new _ _ _
        case c2 => intro u hu; simp at hu; subst hu; rfl
        case c3 => unfold maxLen; omega
        case c4 => omega
        case c5 => have := hb.size; simp; omega
        intro v' w1 hown1 hg1 _
        have hb1 : Below w.heap.size w w1 := (below_al hb _).grown hg1 (by have := hb.size; simp; omega) (fun j hj => (hown.lt j hj).1)
        rw [piece s fr k cur hcur.out] at hown1
        have hcut1 : Hid (cutL (s.data.toList.take (k + 1)) b = (outs ++ [cur]) ++ [[]]) := Lib.hid (by rw [take_snoc s k hlt, hbk, cutL_hit, hcut.out])
        have hcur1 : Hid (([] : Bs) = (s.data.toList.take (k + 1)).drop (k + 1)) := Lib.hid (by rw [List.drop_of_length_le (by simp; omega)])
        clear hown hg1 hb hcut hcur
        go_wp2
        go_roundw
        case rel => exact ⟨k + 1, k + 1, outs ++ [cur], [], by omega, by omega, by go_num, by go_num, hcut1, hcur1, by simpa using hown1, by simp; omega, hb1⟩
        case measure => simp [intOf]; omega
      · have e1 : ((s[k].toNat : Int) == (b.toNat : Int)) = false := by
          simp; intro h; exact hbk (UInt8.toNat_inj.1 (by omega))
        have hcut1 : Hid (cutL (s.data.toList.take (k + 1)) b = outs ++ [cur ++ [s[k]]]) := Lib.hid (by rw [take_snoc s k hlt]; exact cutL_miss _ _ _ hbk _ _ hcut.out)
        have hcur1 : Hid (cur ++ [s[k]] = (s.data.toList.take (k + 1)).drop fr) := Lib.hid (by rw [take_snoc s k hlt, List.drop_append_of_le_length (by simp; omega), hcur.out])
        clear hcut hcur
        go_wp2
        go_roundw
        case rel => exact ⟨k + 1, fr, outs, _, by omega, by omega, by go_num, rfl, hcut1, hcur1, hown, by omega, hb⟩
        case measure => simp [intOf]; omega
    · obtain rfl : k = s.size := by omega
      have hfin : Hid (cutL s.data.toList b = outs ++ [cur]) := Lib.hid (by rw [← take_all s s.size (Nat.le_refl _)]; exact hcut.out)
      clear hcut
      go_wp2_with (at_builtin; refine wpList_append_own _ rfl _ _ 40 rfl w.heap.size 9 i0 (.string ⟨#[]⟩) 1 16 Try.underlying40 hi hz0 hz1 hz2 rfl (by decide) _ _ _ rfl (hown.alloc _) ⟨wr.heap.size, 0, none⟩ 1 1 [.string (s.extract fr s.size)] rfl rfl ?d1 ?d2 ?d3 ?d4 ?d5 ?_)
      case d1 => exact cell_one_new _ _ _
      case d2 => intro u hu; simp at hu; subst hu; rfl
      case d3 => unfold maxLen; omega
      case d4 => omega
      case d5 => have := hb.size; simp; omega
      intro v' w1 hown1 hg1 _
      have hb1 : Below w.heap.size w w1 := (below_al hb _).grown hg1 (by have := hb.size; simp; omega) (fun j hj => (hown.lt j hj).1)
      rw [piece s fr s.size cur hcur.out] at hown1
      clear hown hg1 hb hcur
      go_wp2
      go_ret
      have hrow := row_of_owns (l := outs ++ [cur]) (by simpa using hown1) (by simp)
      obtain ⟨g, cap, rfl, hrow, hg⟩ := hrow
      rw [hfin.out]
      exact ⟨g, cap, rfl, hrow, hb1, hg⟩
theorem cut_any (s : ByteArray) (b : UInt8) (w : World) (hs : s.size ≤ 4294967296) :
    Calls Try.prog 23 #[.string s, .int .u8 b.toNat] w fun e w' => ∃ g cap, e = .returned (.slice (some ⟨g, 0, none⟩) (cutL s.data.toList b).length cap) ∧ TxRow w' g (cutL s.data.toList b) ∧ Below w.heap.size w w' :=
  (cut_new s b w hs).mono fun _ _ ⟨g, cap, h1, h2, h3, _⟩ => ⟨g, cap, h1, h2, h3⟩

end Go.Proofs.Ytdinaphcglmhoaa
