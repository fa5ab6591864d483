/-
  The walks of spec.number, spec.parts.
-/
import Derived.Test.YtdinaphcglmhoaaPreP
import Derived.Test.YtdinaphcglmhoaaSmall
namespace Go.Proofs.Ytdinaphcglmhoaa
open Go.RowKit
set_option linter.unusedVariables false

set_option maxHeartbeats 1000000 in
theorem specnumber_any (s : ByteArray) (w : World) (hs : s.size ≤ 4294967296) :
    Calls Try.prog 40 #[.string s] w fun e w' => e = .returned (.bool (numB s.data.toList)) ∧ w = w' := by
  have hm : s.size ≤ maxLen := by unfold maxLen; omega
  obtain ⟨d, hd⟩ : ∃ d, digB s.data.toList = d := ⟨_, rfl⟩
  have D := fun wx => digits_any s wx hm
  rw [hd] at D
  have D' := Lib.hid D
  have HD := Lib.hid hd
  clear D hd
  cases d
  · have E : Hid (numB s.data.toList = false) := Lib.hid (by unfold numB; rw [HD.out]; rfl)
    go_enter Try.func40, Try.ntmps40
    go_wp2_with (go_at_call 44; refine (D'.out _).mono ?_; rintro e w' ⟨rfl, rfl⟩)
    go_ret
    exact ⟨ret_bool E.out.symm, rfl⟩
  · have hp : 0 < s.size := by
      have := List.length_pos_iff.2 (digB_iff.1 HD.out).1
      simpa using this
    by_cases h1 : s.size = 1
    · have E : Hid (numB s.data.toList = true) := Lib.hid (by unfold numB; rw [HD.out, size_len, decide_eq_true h1]; rfl)
      have e1 : ((s.size : Int) == 1) = true := by simp; omega
      clear h1
      go_enter Try.func40, Try.ntmps40
      go_wp2_with (go_at_call 44; refine (D'.out _).mono ?_; rintro e w' ⟨rfl, rfl⟩)
      go_ret
      exact ⟨ret_bool E.out.symm, rfl⟩
    · have e1 : ((s.size : Int) == 1) = false := by simp; omega
      rcases bool_or ((s[0].toNat : Int) != 48) with hz | hz
      · have E : Hid (numB s.data.toList = true) := Lib.hid (by
          unfold numB; rw [HD.out, Bool.true_and, Bool.or_eq_true]; right
          exact bne_iff_ne.2 (byte_isnt (h := hp) (c := 48) (by simpa using hz)))
        clear h1
        go_enter Try.func40, Try.ntmps40
        go_wp2_with (go_at_call 44; refine (D'.out _).mono ?_; rintro e w' ⟨rfl, rfl⟩)
        go_ret
        exact ⟨ret_bool E.out.symm, rfl⟩
      · have E : Hid (numB s.data.toList = false) := Lib.hid (by
          unfold numB; rw [HD.out, Bool.true_and, size_len, decide_eq_false h1, Bool.false_or]
          exact bne_eq_false_iff_eq.2 (byte_is (h := hp) (c := 48) (by simpa using hz)))
        clear h1
        go_enter Try.func40, Try.ntmps40
        go_wp2_with (go_at_call 44; refine (D'.out _).mono ?_; rintro e w' ⟨rfl, rfl⟩)
        go_ret
        exact ⟨ret_bool E.out.symm, rfl⟩

theorem parts_step {L : List Bs} {k : Nat} {st : Bool} (hk : k < L.length) (h : (L.take k).all (pieceB st) = true) (hp : pieceB st L[k] = true) : (L.take (k + 1)).all (pieceB st) = true := by
  rw [List.take_succ_eq_append_getElem hk, List.all_append, h]; simp [hp]
theorem parts_no {L : List Bs} {k : Nat} {st : Bool} (hk : k < L.length) (hp : pieceB st L[k] = false) : L.all (pieceB st) = false := by
  rw [List.all_eq_false]
  exact ⟨_, List.getElem_mem hk, by rw [hp]; simp⟩

set_option maxHeartbeats 2000000 in
theorem parts_any (s : ByteArray) (st : Bool) (w : World) (hs : s.size ≤ 4294967296) :
    Calls Try.prog 39 #[.string s, .bool st] w fun e w' => e = .returned (.bool (partsB s.data.toList st)) ∧ Below w.heap.size w w' := by
  have hsz : ∀ x ∈ cutL s.data.toList 46, x.length ≤ s.size := by have := cutL_size s.data.toList 46; simpa using this
  have hlen : (cutL s.data.toList 46).length ≤ s.size + 1 := by have := cutL_len s.data.toList 46; simpa using this
  have hE : partsB s.data.toList st = (cutL s.data.toList 46).all (pieceB st) := rfl
  have C := Lib.hid (cut_any s 46 w hs)
  go_enter Try.func39, Try.ntmps39
  go_wp2_with fail
  refine C.out.mono ?_
  rintro e w1 ⟨g, cap, rfl, hrow, hb⟩
  clear C
  generalize cutL s.data.toList 46 = L at *
  have HSZ := Lib.hid hsz
  have HE := Lib.hid hE
  have HB := Lib.hid hb
  clear hsz hE hb
  go_wp2
  go_loop [10] (fun i => ∃ k : Nat, k ≤ L.length ∧ i = .int .i64 k ∧ Hid ((L.take k).all (pieceB st) = true)) (fun i => L.length - (intOf i).toNat)
  case atStart => exact ⟨0, Nat.zero_le _, rfl, Lib.hid rfl⟩
  case round =>
    obtain ⟨k, hk, rfl, hall⟩ := hrel
    by_cases hlt : k < L.length
    · have hcell := hrow.at_ k hlt
      have hx : (tx L[k]).size ≤ 4294967296 := by
        rw [tx_size]; have := HSZ.out L[k] (List.getElem_mem hlt); omega
      have hstep := Lib.hid (fun h => parts_step (st := st) hlt hall.out h)
      have hno := Lib.hid (fun h => parts_no (st := st) hlt h)
      obtain ⟨p, hp⟩ : ∃ p : ByteArray, p = tx L[k] := ⟨_, rfl⟩
      have hpl : L[k] = p.data.toList := by rw [hp, tx_data]
      rw [← hp] at hcell hx
      rw [hpl] at hstep hno
      have HR := Lib.hid hrow
      clear hrow hp hpl hall
      have hxm : p.size ≤ maxLen := by unfold maxLen; omega
      by_cases h0 : p.size = 0
      · have he : p.toList.isEmpty = true := by
          rw [Lib.toList_data, List.isEmpty_iff]
          exact List.eq_nil_of_length_eq_zero (by rw [size_len]; exact h0)
        have E : Hid (partsB s.data.toList st = false) := Lib.hid (by
          rw [HE.out]; apply hno.out
          rw [Lib.toList_data, List.isEmpty_iff] at he; rw [he]; rfl)
        clear h0
        go_wp2
        go_ret
        exact ⟨ret_bool E.out.symm, HB.out⟩
      · have he : p.toList.isEmpty = false := by
          rw [Lib.toList_data]; cases h : p.data.toList with
          | nil => exfalso; apply h0; rw [← size_len, h]; rfl
          | cons => rfl
        have HNE : Hid (p.data.toList.isEmpty = false) := Lib.hid (by rw [← Lib.toList_data]; exact he)
        clear h0
        obtain ⟨a, haa⟩ : ∃ a, allB p.data.toList true true [45] = a := ⟨_, rfl⟩
        have A := fun wx => all_any p true true ⟨#[45]⟩ wx hxm (by decide)
        have hcon : (⟨#[45]⟩ : ByteArray).data.toList = [45] := rfl
        rw [hcon, haa] at A
        have A' := Lib.hid A
        have HA := Lib.hid haa
        clear A haa hcon
        cases a
        · have E : Hid (partsB s.data.toList st = false) := Lib.hid (by
            rw [HE.out]; apply hno.out; unfold pieceB; rw [HA.out]; simp)
          go_wp2_with (go_at_call 29; refine (A'.out _).mono ?_; rintro e w' ⟨rfl, rfl⟩)
          go_ret
          exact ⟨ret_bool E.out.symm, HB.out⟩
        · have PV : Hid (pieceB st p.data.toList = !(st && (digB p.data.toList && !numB p.data.toList))) := Lib.hid (by unfold pieceB; rw [HA.out, HNE.out]; simp)
          cases st
          · have HN := Lib.hid (hstep.out (by rw [PV.out]; rfl))
            go_wp2_with (go_at_call 29; refine (A'.out _).mono ?_; rintro e w' ⟨rfl, rfl⟩)
            go_round
            case rel => exact ⟨k + 1, by omega, by go_num, HN⟩
            case measure => simp [intOf]; omega
          · obtain ⟨d, hd⟩ : ∃ d, digB p.data.toList = d := ⟨_, rfl⟩
            have D := fun wx => digits_any p wx hxm
            rw [hd] at D
            have D' := Lib.hid D
            have HD := Lib.hid hd
            obtain ⟨n, hn⟩ : ∃ n, numB p.data.toList = n := ⟨_, rfl⟩
            have N := fun wx => specnumber_any p wx hx
            rw [hn] at N
            have N' := Lib.hid N
            have HN0 := Lib.hid hn
            clear D hd N hn
            cases d
            · have HN := Lib.hid (hstep.out (by rw [PV.out, HD.out]; rfl))
              go_wp2_with (first | (go_at_call 29; refine (A'.out _).mono ?_; rintro e w' ⟨rfl, rfl⟩) | (go_at_call 44; refine (D'.out _).mono ?_; rintro e w' ⟨rfl, rfl⟩))
              go_round
              case rel => exact ⟨k + 1, by omega, by go_num, HN⟩
              case measure => simp [intOf]; omega
            · cases n
              · have E : Hid (partsB s.data.toList true = false) := Lib.hid (by
                  rw [HE.out]; apply hno.out; rw [PV.out, HD.out, HN0.out]; rfl)
                go_wp2_with (first | (go_at_call 29; refine (A'.out _).mono ?_; rintro e w' ⟨rfl, rfl⟩) | (go_at_call 44; refine (D'.out _).mono ?_; rintro e w' ⟨rfl, rfl⟩) | (go_at_call 40; refine (N'.out _).mono ?_; rintro e w' ⟨rfl, rfl⟩))
                go_ret
                exact ⟨ret_bool E.out.symm, HB.out⟩
              · have HN := Lib.hid (hstep.out (by rw [PV.out, HD.out, HN0.out]; rfl))
                go_wp2_with (first | (go_at_call 29; refine (A'.out _).mono ?_; rintro e w' ⟨rfl, rfl⟩) | (go_at_call 44; refine (D'.out _).mono ?_; rintro e w' ⟨rfl, rfl⟩) | (go_at_call 40; refine (N'.out _).mono ?_; rintro e w' ⟨rfl, rfl⟩))
                go_round
                case rel => exact ⟨k + 1, by omega, by go_num, HN⟩
                case measure => simp [intOf]; omega
    · have E : Hid (partsB s.data.toList st = true) := Lib.hid (by
        have := hall.out
        rw [List.take_of_length_le (by omega)] at this
        rw [HE.out]; exact this)
      go_wp2
      go_ret
      exact ⟨ret_bool E.out.symm, HB.out⟩

end Go.Proofs.Ytdinaphcglmhoaa
