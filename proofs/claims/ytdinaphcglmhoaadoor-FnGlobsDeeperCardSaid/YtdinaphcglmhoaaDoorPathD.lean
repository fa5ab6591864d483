/-
  The walks of spec.path, spec.ImportPath: each hands back some number.
-/
import Derived.Test.YtdinaphcglmhoaaDoorElem
namespace Go.Proofs.YtdinaphcglmhoaaDoor
open Go.RowKit

set_option maxHeartbeats 1000000 in
theorem path_any (s : ByteArray) (f : Bool) (w : World) (hs : s.size ≤ 4294967296) :
    Calls Tryd.prog 15 #[.string s, .bool f] w fun e w' => SomeInt e ∧ Below w.heap.size w w' := by
  go_enter Tryd.func15, Tryd.ntmps15
  go_wp2_with fail
  refine (cut_any s 47 w hs).mono ?_
  rintro e w1 ⟨g, cap, rfl, hrow, hb⟩
  have hsz : ∀ x ∈ cutL s.data.toList 47, x.length ≤ s.size := by have := cutL_size s.data.toList 47; simpa using this
  have hlen : (cutL s.data.toList 47).length ≤ s.size + 1 := by have := cutL_len s.data.toList 47; simpa using this
  generalize cutL s.data.toList 47 = L at *
  have HSZ := Lib.hid hsz
  clear hsz
  go_wp2
  go_loopw [5, 11] (fun st i wr => ∃ (k : Nat) (n : Int), k ≤ L.length ∧ i = .int .i64 k ∧ st = .int .i64 n ∧ TxRow wr g L ∧ Below w.heap.size w wr) (fun _ i _ => L.length - (intOf i).toNat)
  case atStart => exact ⟨0, 1, Nat.zero_le _, rfl, rfl, hrow, hb⟩
  case round =>
    obtain ⟨k, n, hk, rfl, rfl, hr, hbr⟩ := hrel
    clear hrow hb
    by_cases hlt : k < L.length
    · have hcell := hr.at_ k hlt
      have hx : (tx L[k]).size ≤ 4294967296 := by
        rw [tx_size]; have := HSZ.out L[k] (List.getElem_mem hlt); omega
      have HR := Lib.hid hr
      have HB := Lib.hid hbr
      clear hr hbr
      go_wp2_with (first | (go_at_call 21; refine (element_any _ _ _ hx).mono ?_; rintro e w2 ⟨⟨m, rfl⟩, hb2⟩; have HB2 := Lib.hid hb2; clear hb2) | (go_at_call 20; refine (join_any _ _ _).mono ?_; rintro e w' ⟨rfl, rfl⟩))
      go_roundw
      case rel => exact ⟨k + 1, _, by omega, by go_num, rfl, HR.out.below HB2.out, below_tr HB.out HB2.out⟩
      case measure => simp [intOf]; omega
    · have HB := Lib.hid hbr
      clear hr hbr
      by_cases h0 : s.size = 0
      · have h0' : s.size ≤ 0 := by omega
        clear h0
        go_wp2
        go_ret
        exact ⟨⟨_, rfl⟩, HB.out⟩
      · have h0' : 0 < s.size := by omega
        clear h0
        rcases bool_two ((s[0].toNat : Int) == 45) with h1 | h1
        all_goals
          go_wp2_with (go_at_call 20; refine (join_any _ _ _).mono ?_; rintro e w' ⟨rfl, rfl⟩)
          go_ret
          exact ⟨⟨_, rfl⟩, HB.out⟩

set_option maxHeartbeats 1000000 in
theorem importPath_any (s : ByteArray) (w : World) (hs : s.size ≤ 4294967296) :
    Calls Tryd.prog 9 #[.string s] w fun e w' => SomeInt e ∧ Below w.heap.size w w' := by
  have hm : s.size ≤ maxLen := by unfold maxLen; omega
  have I := fun wx => in_any s 43 wx hm
  have P := Lib.hid (fun wx => path_any s false wx hs)
  have HB0 := Lib.hid (Below.refl w.heap.size w)
  cases h : inB s.data.toList 43
  · rw [h] at I
    have I' := Lib.hid I
    clear I h
    go_enter Tryd.func9, Tryd.ntmps9
    go_wp2_with fail
    refine (I'.out _).mono ?_
    rintro e w' ⟨rfl, rfl⟩
    go_wp2_with fail
    refine (P.out _).mono ?_
    rintro e w1 ⟨⟨n, rfl⟩, hb⟩
    have HB := Lib.hid hb
    clear hb
    go_wp2
    go_ret
    exact ⟨⟨_, rfl⟩, HB.out⟩
  · rw [h] at I
    have I' := Lib.hid I
    clear I h
    go_enter Tryd.func9, Tryd.ntmps9
    go_wp2_with fail
    refine (I'.out _).mono ?_
    rintro e w' ⟨rfl, rfl⟩
    go_wp2
    go_ret
    exact ⟨⟨_, rfl⟩, HB0.out⟩
end Go.Proofs.YtdinaphcglmhoaaDoor
