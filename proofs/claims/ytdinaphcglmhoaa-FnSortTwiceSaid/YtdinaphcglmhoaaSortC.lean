/-
  The walks of cmp.Compare at texts, and of Sort's closure at two versions of one path that have the same text ahead of the stroke.
-/
import Derived.Test.YtdinaphcglmhoaaZz1
import Derived.Test.YtdinaphcglmhoaaSortP
namespace Go.Proofs.Ytdinaphcglmhoaa
open Go.RowKit Go.Sort
set_option linter.unusedVariables false

def cmpS (x y : ByteArray) : Int := if Op.bytesLess x.toList y.toList = true then -1 else if (x.toList == y.toList) = true then 0 else 1

theorem isNaN_any (s : ByteArray) (w : World) : Calls Try.prog 70 #[.string s] w fun e w' => e = .returned (.bool false) ∧ w = w' := by
  have h : (s.toList == s.toList) = true := by simp
  go_enter Try.func70, Try.ntmps70
  go_wp2
  go_ret
  exact ⟨rfl, rfl⟩

theorem cmpStr_any (x y : ByteArray) (w : World) : Calls Try.prog 56 #[.string x, .string y] w fun e w' => e = .returned (.int .i64 (cmpS x y)) ∧ w = w' := by
  unfold cmpS
  cases h1 : Op.bytesLess x.toList y.toList with
  | true =>
    go_enter Try.func56, Try.ntmps56
    go_wp2_with (go_at_call 70; refine (isNaN_any _ _).mono ?_; rintro e w' ⟨rfl, rfl⟩)
    go_ret
    exact ⟨rfl, rfl⟩
  | false =>
    cases h2 : (x.toList == y.toList) with
    | true =>
      go_enter Try.func56, Try.ntmps56
      go_wp2_with (go_at_call 70; refine (isNaN_any _ _).mono ?_; rintro e w' ⟨rfl, rfl⟩)
      go_ret
      exact ⟨rfl, rfl⟩
    | false =>
      go_enter Try.func56, Try.ntmps56
      go_wp2_with (go_at_call 70; refine (isNaN_any _ _).mono ?_; rintro e w' ⟨rfl, rfl⟩)
      go_ret
      exact ⟨rfl, rfl⟩

/-- x has its first stroke at k -/
def StrokeAt (x : ByteArray) (k : Nat) : Prop := k < x.size ∧ x.data.toList[k]? = some 47 ∧ 47 ∉ x.data.toList.take k
theorem idx_stroke {x : ByteArray} {k : Nat} {n : Int} (h : IdxR x.data.toList 47 n) (hk : StrokeAt x k) : n = k := by
  obtain ⟨h1, h2, h3⟩ := hk
  rcases h with ⟨rfl, h⟩ | ⟨m, rfl, h4, h5, h6⟩
  · exact absurd (List.mem_of_getElem? h2) h
  · rcases Nat.lt_trichotomy m k with c | c | c
    · exact absurd (List.mem_of_getElem? (show (x.data.toList.take k)[m]? = some 47 from by rw [List.getElem?_take, if_pos c, h5])) h3
    · rw [c]
    · exact absurd (List.mem_of_getElem? (show (x.data.toList.take m)[k]? = some 47 from by rw [List.getElem?_take, if_pos c, h2])) h6

set_option maxHeartbeats 1000000 in
theorem clos_same (p x y : ByteArray) (k : Nat) (W : World) (hx : x.size ≤ 4294967296) (hy : y.size ≤ 4294967296) (kx : StrokeAt x k) (ky : StrokeAt y k) (ht : x.data.toList.take k = y.data.toList.take k) :
    Calls Try.prog 52 #[.agg #[.string p, .string x], .agg #[.string p, .string y]] W fun e w' => e = .returned (.int .i64 (cmpS (x.extract k x.size) (y.extract k y.size))) ∧ ∃ q os', w' = grow (W.drewN q) os' := by
  have hsep : (⟨#[47]⟩ : ByteArray).data.toList = [47] := rfl
  have I1 : Hid (∀ w, Calls Try.prog 54 #[.string x, .string ⟨#[47]⟩] w fun e w' => e = .returned (.int .i64 k) ∧ w = w') :=
    Lib.hid (fun w => (zzIndex_any x ⟨#[47]⟩ 47 hsep w hx).mono fun e w' ⟨n, he, hn, hw⟩ => ⟨by rw [he, idx_stroke hn kx], hw⟩)
  have I2 : Hid (∀ w, Calls Try.prog 54 #[.string y, .string ⟨#[47]⟩] w fun e w' => e = .returned (.int .i64 k) ∧ w = w') :=
    Lib.hid (fun w => (zzIndex_any y ⟨#[47]⟩ 47 hsep w hy).mono fun e w' ⟨n, he, hn, hw⟩ => ⟨by rw [he, idx_stroke hn ky], hw⟩)
  have C := Lib.hid (fun w => cmpStr_any (x.extract k x.size) (y.extract k y.size) w)
  have ep : (p.toList == p.toList) = true := by simp
  have ev : ((x.extract 0 k).toList == (y.extract 0 k).toList) = true := by
    rw [Lib.toList_data, Lib.toList_data, extract_take, extract_take, ht]; simp
  have kx1 := kx.1
  have ky1 := ky.1
  clear kx ky ht hsep
  generalize cmpS (x.extract k x.size) (y.extract k y.size) = r at C ⊢
  go_enter Try.func52, Try.ntmps52
  go_wp2_with fail
  refine (I1.out _).mono ?_
  rintro e w' ⟨rfl, rfl⟩
  go_wp2
  go_quiet (fail)
  go_wp2_with fail
  refine (I2.out _).mono ?_
  rintro e w' ⟨rfl, rfl⟩
  go_wp2
  go_quiet (fail)
  go_wp2_with fail
  refine (C.out _).mono ?_
  rintro e w' ⟨rfl, rfl⟩
  go_wp2
  go_ret
  exact ⟨rfl, _, _, by rw [alloc_eq_grow, alloc_eq_grow, grow_grow]; rfl⟩
end Go.Proofs.Ytdinaphcglmhoaa
