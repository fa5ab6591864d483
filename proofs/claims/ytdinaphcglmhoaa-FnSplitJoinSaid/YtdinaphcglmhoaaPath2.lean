/-
  The walks of spec.path, spec.Path.
-/
import Derived.Test.YtdinaphcglmhoaaPath
namespace Go.Proofs.Ytdinaphcglmhoaa
open Go.RowKit

set_option maxHeartbeats 1000000 in
theorem path_any (s : ByteArray) (f : Bool) (w : World) (hs : s.size ≤ 4294967296) :
    Calls Try.prog 28 #[.string s, .bool f] w fun e w' => SomeInt e ∧ Below w.heap.size w w' := by
  go_enter Try.func28, Try.ntmps28
  go_wp2_with fail
  refine (cut_any s 47 w hs).mono ?_
  rintro e w1 ⟨g, cap, rfl, hrow, hb⟩
  have hsz : ∀ x ∈ cutL s.data.toList 47, x.length ≤ s.size := by have := cutL_size s.data.toList 47; simpa using this
  have hlen : (cutL s.data.toList 47).length ≤ s.size + 1 := by have := cutL_len s.data.toList 47; simpa using this
  generalize cutL s.data.toList 47 = L at *
  have HSZ := Lib.hid hsz
  clear hsz
  go_wp2
  go_loopw [5, 11] (fun st i wr => ∃ (k : Nat) (n : Int), k ≤ L.length ∧ i = .int .i64 k ∧ st = .int .i64 n ∧ TxRow wr g L ∧ Below w.heap.size w wr) (fun _ i _ => L.length - (intOf i).toNat)
  case atStart => exact ⟨0, 1, Nat.zero_le _, rfl, rfl, hrow, hb⟩
  case round =>
    obtain ⟨k, n, hk, rfl, rfl, hr, hbr⟩ := hrel
    clear hrow hb
    by_cases hlt : k < L.length
    · have hcell := hr.at_ k hlt
      have hx : (tx L[k]).size ≤ 4294967296 := by
        rw [tx_size]; have := HSZ.out L[k] (List.getElem_mem hlt); omega
      have HR := Lib.hid hr
      have HB := Lib.hid hbr
      clear hr hbr
      go_wp2_with (first | (go_at_call 41; refine (element_any _ _ _ hx).mono ?_; rintro e w2 ⟨⟨m, rfl⟩, hb2⟩; have HB2 := Lib.hid hb2; clear hb2) | (go_at_call 30; refine (join_any _ _ _).mono ?_; rintro e w' ⟨rfl, rfl⟩))
      go_roundw
      case rel => exact ⟨k + 1, _, by omega, by go_num, rfl, HR.out.below HB2.out, below_tr HB.out HB2.out⟩
      case measure => simp [intOf]; omega
    · have HB := Lib.hid hbr
      clear hr hbr
      by_cases h0 : s.size = 0
      · have h0' : s.size ≤ 0 := by omega
        clear h0
        go_wp2
        go_ret
        exact ⟨⟨_, rfl⟩, HB.out⟩
      · have h0' : 0 < s.size := by omega
        clear h0
        rcases bool_two ((s[0].toNat : Int) == 45) with h1 | h1
        all_goals
          go_wp2_with (go_at_call 30; refine (join_any _ _ _).mono ?_; rintro e w' ⟨rfl, rfl⟩)
          go_ret
          exact ⟨⟨_, rfl⟩, HB.out⟩

/-- a fine answer of spec.Path tells a fine answer of spec.Split -/
def PathE (l : Bs) (e : Ending) : Prop := ∃ n : Int, e = .returned (.int .i64 n) ∧ (n = 1 → (splitV l).2 = 1)
theorem PathE.two (l : Bs) : PathE l (.returned (.int .i64 2)) := ⟨2, rfl, by simp⟩
theorem splitV_st (l : Bs) : (splitV l).2 = 0 ∨ (splitV l).2 = 1 ∨ (splitV l).2 = 2 := (splitV_R l).1
theorem PathE.join (l : Bs) (n : Int) : PathE l (.returned (.int .i64 (joinN n (splitV l).2))) := ⟨_, rfl, fun h => by
  rcases splitV_st l with e | e | e
  · rw [e] at h; unfold joinN at h; exfalso; revert h; split <;> simp
  · exact e
  · rw [e] at h; unfold joinN at h; exfalso; revert h; simp⟩

set_option maxHeartbeats 1000000 in
theorem Path_any (s : ByteArray) (w : World) (hs : s.size ≤ 4294967296) :
    Calls Try.prog 14 #[.string s] w fun e w' => PathE s.data.toList e ∧ Below w.heap.size w w' := by
  go_enter Try.func14, Try.ntmps14
  go_wp2_with fail
  refine (path_any s false w hs).mono ?_
  rintro e w0 ⟨⟨n, rfl⟩, hb0⟩
  have HB0 := Lib.hid hb0
  clear hb0
  go_wp2_with fail
  refine (cut_any s 47 w0 hs).mono ?_
  rintro e w1 ⟨g, cap, rfl, hrow, hb⟩
  have hsz : ∀ x ∈ cutL s.data.toList 47, x.length ≤ s.size := by have := cutL_size s.data.toList 47; simpa using this
  have hlen : (cutL s.data.toList 47).length ≤ s.size + 1 := by have := cutL_len s.data.toList 47; simpa using this
  have hne := List.length_pos_iff.2 (cutL_ne s.data.toList 47)
  generalize cutL s.data.toList 47 = L at *
  have HSZ := Lib.hid hsz
  have HB := Lib.hid (below_tr HB0.out hb)
  clear hsz hb HB0
  go_wp2
  go_loop [15] (fun i => ∃ k : Nat, k ≤ L.length ∧ i = .int .i64 k) (fun i => L.length - (intOf i).toNat)
  case atStart => exact ⟨0, Nat.zero_le _, rfl⟩
  case round =>
    obtain ⟨k, hk, rfl⟩ := hrel
    by_cases hlt : k < L.length
    · have hcell := hrow.at_ k hlt
      have hx : (tx L[k]).size ≤ 4294967296 := by
        rw [tx_size]; have := HSZ.out L[k] (List.getElem_mem hlt); omega
      generalize tx L[k] = p at *
      have HR := Lib.hid hrow
      clear hrow
      by_cases h0 : p.size = 0
      · have h0' : p.size ≤ 0 := by omega
        clear h0
        go_wp2
        go_round
        case rel => exact ⟨k + 1, by omega, by go_num⟩
        case measure => simp [intOf]; omega
      · have h0' : 0 < p.size := by omega
        clear h0
        rcases bool_two ((p[0].toNat : Int) == 46) with h1 | h1
        · go_wp2
          go_ret
          exact ⟨PathE.two _, HB.out⟩
        · go_wp2
          go_round
          case rel => exact ⟨k + 1, by omega, by go_num⟩
          case measure => simp [intOf]; omega
    · have hcell := hrow.at_ 0 hne
      have hx : (tx L[0]).size ≤ 4294967296 := by
        rw [tx_size]; have := HSZ.out L[0] (List.getElem_mem hne); omega
      generalize tx L[0] = p at *
      clear hrow
      have hxm : p.size ≤ maxLen := by unfold maxLen; omega
      obtain ⟨a, haa⟩ : ∃ a, allB p.data.toList true false [46, 45] = a := ⟨_, rfl⟩
      have A := fun wx => all_any p true false ⟨#[46, 45]⟩ wx hxm (by decide)
      have hcon : (⟨#[46, 45]⟩ : ByteArray).data.toList = [46, 45] := rfl
      rw [hcon, haa] at A
      have A' := Lib.hid A
      clear A haa hcon
      obtain ⟨ib, hib⟩ : ∃ ib, inB p.data.toList 46 = ib := ⟨_, rfl⟩
      have I := fun wx => in_any p 46 wx hxm
      rw [hib] at I
      have I' := Lib.hid I
      have HIB := Lib.hid hib
      clear I hib hxm
      cases a
      · go_wp2_with (go_at_call 29; refine (A'.out _).mono ?_; rintro e w' ⟨rfl, rfl⟩)
        go_ret
        exact ⟨PathE.two _, HB.out⟩
      · cases ib
        · go_wp2_with (first | (go_at_call 29; refine (A'.out _).mono ?_; rintro e w' ⟨rfl, rfl⟩) | (go_at_call 26; refine (I'.out _).mono ?_; rintro e w' ⟨rfl, rfl⟩))
          go_ret
          exact ⟨PathE.two _, HB.out⟩
        · have h0 : 0 < p.size := by
            have h := inB_iff.1 HIB.out
            have := List.length_pos_iff.2 (List.ne_nil_of_mem h)
            simpa using this
          rcases bool_two ((p[0].toNat : Int) == 45) with h1 | h1
          · go_wp2_with (first | (go_at_call 29; refine (A'.out _).mono ?_; rintro e w' ⟨rfl, rfl⟩) | (go_at_call 26; refine (I'.out _).mono ?_; rintro e w' ⟨rfl, rfl⟩))
            go_ret
            exact ⟨PathE.two _, HB.out⟩
          · go_wp2_with (first | (go_at_call 29; refine (A'.out _).mono ?_; rintro e w' ⟨rfl, rfl⟩) | (go_at_call 26; refine (I'.out _).mono ?_; rintro e w' ⟨rfl, rfl⟩) | (go_at_call 16; refine (split_any _ _ hs).mono ?_; rintro e w2 ⟨rfl, hb2⟩; have HB2 := Lib.hid (below_tr HB.out hb2); clear hb2) | (go_at_call 30; refine (join_any _ _ _).mono ?_; rintro e w' ⟨rfl, rfl⟩))
            go_ret
            exact ⟨PathE.join _ _, HB2.out⟩

end Go.Proofs.Ytdinaphcglmhoaa
