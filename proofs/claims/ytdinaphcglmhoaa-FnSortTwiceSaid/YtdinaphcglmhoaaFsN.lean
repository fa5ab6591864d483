/-
  laws.FnSort at no element, nil too; its walk at the comparison of versions.
-/
import Derived.Test.YtdinaphcglmhoaaSortZ
import Derived.Test.YtdinaphcglmhoaaOrd
import Derived.Test.YtdinaphcglmhoaaSpcC
import Derived.Test.YtdinaphcglmhoaaFsW
namespace Go.Proofs.Ytdinaphcglmhoaa
open Go.RowKit
set_option linter.unusedVariables false

theorem cmpK_ver : CmpK verC := fun v u w hv hu => specCompare_any v u w hv hu
theorem verC_good0 : ∀ a b, verC a b = 0 → verC b a = 0 := fun a b h => by
  have := (optC_good (.inl rfl) keyC_good).flip ((readV a).map key) ((readV b).map key)
  unfold verC at *; omega
theorem verC_flip (a b : Bs) : verC b a = - verC a b := (optC_good (.inl rfl) keyC_good).flip _ _
theorem next_of {x y : PV} (h : ¬ ordP y x < 0) : NextOk verC x y := by
  unfold ordP ordC at h
  refine ⟨fun hne => ?_, fun he => ?_⟩
  · rw [if_neg (Ne.symm hne)] at h
    have t := txC_good.tri y.1.data.toList x.1.data.toList
    have z : txC y.1.data.toList x.1.data.toList ≠ 0 := fun e => hne (txC_good.eq _ _ e).symm
    have f := txC_good.flip y.1.data.toList x.1.data.toList
    have e : txC x.1.data.toList y.1.data.toList = -1 := by omega
    rw [Lib.toList_data, Lib.toList_data]
    by_cases hb : Op.bytesLess x.1.data.toList y.1.data.toList = true
    · exact hb
    · unfold txC at e
      rw [if_neg hb, if_neg hne] at e
      omega
  · rw [if_pos he.symm] at h
    by_cases hh : hdV y.2.data.toList = hdV x.2.data.toList
    · rw [hh, verC_self]; exact ⟨Int.le_refl _, Int.le_refl _⟩
    · rw [if_neg hh] at h
      have f := verC_flip (hdV y.2.data.toList) (hdV x.2.data.toList)
      exact ⟨by omega, by omega⟩
theorem sortK_ver : SortK verC := fun l hP hs b o cap w hin hl =>
  (sort_list l hP hs b o cap w hin (by omega)).mono fun e w' ⟨l', g, cap', he, hp, hsrt, hr, hb, _⟩ =>
    ⟨l', g, cap', he, Lib.hid hp, Lib.hid (fun i h => next_of (hsrt i (i + 1) (by omega) h)), hr, hb⟩

theorem fnSort_some (l : List PV) (b o cap : Nat) (w : World) (hin : PvAt w b o l) (hl : l.length ≤ cap ∧ cap ≤ maxLen) (hs : ∀ x ∈ l, x.1.size ≤ maxLen ∧ x.2.size ≤ maxLen) :
    Calls Try.prog 9 #[.slice (some ⟨b, o, none⟩) l.length cap] w fun e w' => e = .returned (.bool true) ∧ Below w.heap.size w w' :=
  fnSort_any verC verC_good0 cmpK_ver sortK_ver l b o cap w hin hl hs

set_option maxRecDepth 100000 in
set_option maxHeartbeats 2000000 in
theorem fnSort_nil (a : Option Addr) (cap : Nat) (w : World) :
    Calls Try.prog 9 #[.slice a 0 cap] w fun e w' => e = .returned (.bool true) ∧ Below w.heap.size w w' := by
  have Z := Lib.hid (fun w => zzFits1_nil a cap w)
  have S := Lib.hid (fun w => implSort_nil a cap w)
  go_enter Try.func9, Try.ntmps9
  go_wp2_with fail
  refine (Z.out _).mono ?_
  rintro e w1 ⟨rfl, hb1⟩
  go_wp2
  go_loopw [28] (fun i wr => i = .int .i64 0 ∧ wr = w1) (fun _ _ => 0)
  case atStart => exact ⟨rfl, rfl⟩
  case round =>
    obtain ⟨rfl, rfl⟩ := hrel
    go_wp2_with fail
    refine (S.out _).mono ?_
    rintro e w2 ⟨g, cap', rfl, hb2⟩
    have HB := Lib.hid (below_trans hb1.out hb2)
    clear hb1 hb2
    have mk := fun w => run_makeMap (P := Try.prog) 43 w
    go_wp2
    go_loopw [84] (fun i wr => i = .int .i64 0 ∧ wr = w2.alloc (.map #[] 0)) (fun _ _ => 0)
    case atStart => exact ⟨rfl, rfl⟩
    case round =>
      obtain ⟨rfl, rfl⟩ := hrel
      obtain ⟨D, hown, hD⟩ := CntN.zero (A := []) (B := []) (MapN.made w2) (List.Perm.refl _)
      have hD := Lib.hid hD
      clear mk
      go_wp2_with (first | (at_range; refine wpList_range_own _ rfl _ 43 rfl 24 3 lawK Try.underlying43 _ w2.heap.size 0 D rfl hown ?_; intro w3 hrg hg2 hs2) | go_in)
      go_frame
      have HB2 := Lib.hid ((below_al (Below.refl w2.heap.size w2) (.map #[] 0)).grown hg2 (by simp) (fun j hj => by cases hj))
      have HRG := Lib.hid hrg
      have hR := Lib.hid (show w2.heap.size ≤ (w2.alloc (.map #[] 0)).heap.size by simp)
      clear hrg hg2 hs2 hown
      generalize (w2.alloc (.map #[] 0)).heap.size = R at *
      go_loopw [13] (fun n wr => ∃ left cnt, Hid (wr.ranges Try.prog 24 (plainElem Try.prog 3) w2.heap.size R 0 D left cnt) ∧ Hid (Below w2.heap.size w2 wr)) (fun _ wr => wr.rangeLeft w2.heap.size R)
      case atStart => exact ⟨_, _, HRG, HB2⟩
      case round =>
        obtain ⟨left, cnt, hrg, hb⟩ := hrel
        go_wp2_with (first | (at_next; refine wpList_next_ranges _ rfl _ rfl 24 lawK (plainElem Try.prog 3) (fun v : Value => v) (Value.int .i64) (fun key kl _ => ⟨key, rfl⟩) elem_int w2.heap.size R 0 D left cnt rfl hrg.out ?_ ?_) | go_in)
        · intro _ _
          clear hrg HRG HB2
          have HF := Lib.hid (below_trans HB.out hb.out)
          go_wp2
          go_loopw [14] (fun i wr' => i = .int .i64 1 ∧ wr' = wr) (fun _ _ => 0)
          case atStart => exact ⟨rfl, rfl⟩
          case round =>
            obtain ⟨rfl, rfl⟩ := hrel
            go_wp2
            go_ret
            exact ⟨rfl, HF.out⟩
        · intro x c kl ya yb w4 cnt' hkey hlk hv hat hrg1 hcl hgr hsz hen
          have c0 : c = 0 := count_zero hD.out hkey hv hat
          have HB3 := Lib.hid (hb.out.grown hgr hb.out.size (fun j hj => by cases hj; exact hR.out))
          have HM : Hid (w4.rangeLeft w2.heap.size R < wr.rangeLeft w2.heap.size R) := Lib.hid (by rw [hrg1.left_eq, hrg.out.left_eq]; exact hcl)
          have HR1 := Lib.hid hrg1
          subst c0
          clear hkey hlk hv hat hrg1 hcl hgr hsz hrg hb HRG HB2
          go_wp2
          go_roundw
          case rel => exact ⟨_, _, HR1, HB3⟩
          case measure => exact HM.out
end Go.Proofs.Ytdinaphcglmhoaa
