/-
  The walk of module.splitGopkgIn at a path with .vN behind; module.SplitPathVersion and impl.SplitPathVersion.
-/
import Derived.Test.YtdinaphcglmhoaaSpv
namespace Go.Proofs.Ytdinaphcglmhoaa
open Go.RowKit
set_option linter.unusedVariables false

theorem suf_no {l ds : Bs} {pre : Bs} (h : l = pre ++ [46, 118] ++ ds) (hne : ds ≠ []) (hd : ∀ c ∈ ds, isD c = true) : sufB (⟨#[45, 117, 110, 115, 116, 97, 98, 108, 101]⟩ : ByteArray).data.toList l = false := by
  unfold sufB
  rw [Bool.and_eq_false_iff]
  refine .inr (beq_eq_false_iff_ne.2 fun e => ?_)
  have e2 := congrArg List.getLast? e
  have hlast : (⟨#[45, 117, 110, 115, 116, 97, 98, 108, 101]⟩ : ByteArray).data.toList.getLast? = some 101 := rfl
  have hlen : (⟨#[45, 117, 110, 115, 116, 97, 98, 108, 101]⟩ : ByteArray).data.toList.length = 9 := rfl
  rw [hlast, hlen] at e2
  have h9 : 9 ≤ l.length := by
    have := congrArg List.length e
    rw [hlen, List.length_drop] at this; omega
  rw [List.getLast?_drop, if_neg (by omega), h, List.getLast?_append] at e2
  have h3 : ds.getLast? = some (ds.getLast hne) := List.getLast?_eq_some_getLast hne
  rw [h3] at e2
  simp at e2
  have := hd _ (List.getLast_mem hne)
  rw [e2] at this
  revert this; decide

set_option maxHeartbeats 4000000 in
theorem sgo_fine (s : ByteArray) (w : World) (hs : s.size ≤ 4294967296) (hp : gop.isPrefixOf s.data.toList = true) (pre ds : Bs)
    (hl : s.data.toList = pre ++ [46, 118] ++ ds) (hne : ds ≠ []) (hd : ∀ c ∈ ds, isD c = true) (h0 : 1 < ds.length → ds[0]? ≠ some 48) :
    Calls Try.prog 43 #[.string s] w fun e w' => e = .returned (trip (pre, [46, 118] ++ ds, true)) ∧ Below w.heap.size w w' := by
  have hm : s.size ≤ maxLen := by unfold maxLen; omega
  have P := fun wx => hasPrefix_any s ⟨#[103, 111, 112, 107, 103, 46, 105, 110, 47]⟩ wx hm (by decide)
  rw [pre9, hp] at P
  have P' := Lib.hid P
  have Q := fun wx => hasSuffix_any s ⟨#[45, 117, 110, 115, 116, 97, 98, 108, 101]⟩ wx hm (by decide)
  rw [suf_no hl hne hd] at Q
  have Q' := Lib.hid Q
  clear P Q hp
  have hb0 := Lib.hid (Below.refl w.heap.size w)
  have hsz : s.size = pre.length + 2 + ds.length := by rw [← size_len, hl]; simp; omega
  have hpos : 0 < ds.length := List.length_pos_iff.2 hne
  have hkn : pre.length + 2 ≤ s.size := by omega
  have hkn' : pre.length + 2 < s.size := by omega
  have HDIG : Hid (∀ k (h : k < s.size), pre.length + 2 ≤ k → isD s[k] = true) := Lib.hid (fun k h hk => by
    have e := byte_at' s k h
    rw [hl, List.getElem?_append_right (by simp; omega)] at e
    exact hd _ (List.mem_of_getElem? e))
  have hV : ∀ h : pre.length + 1 < s.size, s[pre.length + 1] = 118 := fun h => by
    have e := byte_at' s (pre.length + 1) h
    rw [hl] at e
    simp at e
    exact e.symm
  have hD : ∀ h : pre.length < s.size, s[pre.length] = 46 := fun h => by
    have e := byte_at' s pre.length h
    rw [hl] at e
    simp at e
    exact e.symm
  have hmj : (s.extract pre.length s.size).data.toList = [46, 118] ++ ds := by rw [extract_drop, hl]; simp
  have htk : (s.extract 0 pre.length).data.toList = pre := by rw [extract_take, hl]; simp
  have HMJ := Lib.hid hmj
  have HTK := Lib.hid htk
  have HV := Lib.hid hV
  have HD := Lib.hid hD
  have H0 := Lib.hid h0
  have HSZ := Lib.hid hsz
  clear hmj htk hV hD h0 hl hd hsz
  go_enter Try.func43, Try.ntmps43
  go_wp2_with (first | (go_at_call 42; refine (P'.out _).mono ?_; rintro e w' ⟨rfl, rfl⟩) | (go_at_call 48; refine (Q'.out _).mono ?_; rintro e w' ⟨rfl, rfl⟩))
  go_loop [5] (fun i => ∃ (k : Nat), k ≤ s.size ∧ pre.length + 2 ≤ k ∧ i = .int .i64 k) (fun i => (intOf i).toNat)
  case atStart => exact ⟨s.size, Nat.le_refl _, hkn, rfl⟩
  case round =>
    obtain ⟨k, hk, hk2, rfl⟩ := hrel
    have h1 : 1 ≤ k := by omega
    have h3 : (0 : Int) ≤ (k : Int) - 1 := by omega
    have h4 : ((k : Int) - 1).toNat = k - 1 := by omega
    have hj : k - 1 < s.size := by omega
    by_cases hlt : pre.length + 2 < k
    · have hdd := HDIG.out (k - 1) hj (by omega)
      have hq : 48 ≤ (s[k - 1].toNat : Int) := by unfold isD at hdd; simp at hdd; omega
      have hr : (s[k - 1].toNat : Int) ≤ 57 := by unfold isD at hdd; simp at hdd; omega
      clear hdd
      go_wp2
      go_round
      case rel => exact ⟨k - 1, by omega, by omega, by go_num⟩
      case measure => simp [intOf]; omega
    · have hke : k = pre.length + 2 := by omega
      have h118 : (s[k - 1].toNat : Int) = 118 := by
        have : s[k - 1] = s[pre.length + 1] := by congr 1; omega
        rw [this, HV.out (by omega)]; rfl
      have hj2 : k - 2 < s.size := by omega
      have h46 : (s[k - 2].toNat : Int) = 46 := by
        have : s[k - 2] = s[pre.length] := by congr 1; omega
        rw [this, HD.out (by omega)]; rfl
      have hq : 48 ≤ (s[k - 1].toNat : Int) := by omega
      have hr : 57 < (s[k - 1].toNat : Int) := by omega
      have b118 : ((s[k - 1].toNat : Int) != 118) = false := by rw [h118]; rfl
      have b46 : ((s[k - 2].toNat : Int) != 46) = false := by rw [h46]; rfl
      have h5 : (0 : Int) ≤ (k : Int) - 2 := by omega
      have h6 : ((k : Int) - 2).toNat = k - 2 := by omega
      have HK2 : Hid (k - 2 = pre.length) := Lib.hid (by omega)
      have hx2 : 2 < (s.extract (k - 2) s.size).size := by simp; omega
      have hk1 : 1 < k := by omega
      have hks : k < s.size := by omega
      clear h118 h46 hke hlt
      have hmj : (s.extract (k - 2) s.size).data.toList = [46, 118] ++ ds := by rw [HK2.out]; exact HMJ.out
      have htk : (s.extract 0 (k - 2)).data.toList = pre := by rw [HK2.out]; exact HTK.out
      have HMJ2 := Lib.hid hmj
      have HTK2 := Lib.hid htk
      clear hmj htk
      have hend : ∀ wx, Below w.heap.size w wx → (Ending.returned (.tuple #[.string (s.extract 0 (k - 2)), .string (s.extract (k - 2) s.size), .bool true]) = .returned (trip (pre, [46, 118] ++ ds, true)) ∧ Below w.heap.size w wx) := fun wx hb => by
        refine ⟨?_, hb⟩
        unfold trip
        rw [tx_eq HTK2.out, tx_eq HMJ2.out]
      have HEND := Lib.hid hend
      clear hend
      rcases bool_two' (((s.extract (k - 2) s.size)[2].toNat : Int) == 48) with h48 | h48
      · have hv0 : ((s.extract (k - 2) s.size).toList != [46, 118, 48]) = false := by
          rw [Lib.toList_data, HMJ2.out]
          have e1 := byte_is (p := s.extract (k - 2) s.size) (h := hx2) (c := 48) (by simpa using h48)
          rw [HMJ2.out] at e1
          have e2 : ds[0]? = some 48 := by simpa using e1
          have e3 : ds.length = 1 := by
            rcases Nat.lt_or_ge 1 ds.length with h | h
            · exact absurd e2 (H0.out h)
            · omega
          obtain ⟨c, rfl⟩ := List.length_eq_one_iff.1 e3
          simp at e2
          subst e2
          rfl
        have hv1 : ((s.extract (k - 2) s.size).toList == [46, 118, 48]) = true := by simpa using hv0
        go_wp2
        go_quiet (fail)
        go_wp2
        go_ret3
        exact HEND.out _ (below_drewN hb0.out _)
      · go_wp2
        go_quiet (fail)
        go_wp2
        go_ret3
        exact HEND.out _ (below_drewN hb0.out _)

end Go.Proofs.Ytdinaphcglmhoaa
