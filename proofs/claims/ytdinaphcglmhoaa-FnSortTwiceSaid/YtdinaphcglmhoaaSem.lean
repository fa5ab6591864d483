/-
  The walks of semver.isIdentChar, isBadNum, parseInt.
-/
import Derived.Test.YtdinaphcglmhoaaSemP
import Derived.Test.YtdinaphcglmhoaaSmall
import Derived.Deep.QuietTactic
import Derived.BigQuiet
namespace Go.Proofs.Ytdinaphcglmhoaa
open Go.RowKit
set_option linter.unusedVariables false

set_option maxHeartbeats 1000000 in
theorem isIdent_any (c : UInt8) (w : World) :
    Calls Try.prog 88 #[.int .u8 c.toNat] w fun e w' => e = .returned (.bool (idB c)) ∧ w = w' := by
  have hin : inB [45] c = decide ((c.toNat : Int) = 45) := by
    rw [Bool.eq_iff_iff]; simp [inB]
    constructor
    · rintro rfl; rfl
    · intro h; exact UInt8.toNat_inj.1 (by show c.toNat = (45 : UInt8).toNat; simp; omega)
  have hc : (c.toNat : Int) < 45 ∨ (c.toNat : Int) = 45 ∨ (45 < (c.toNat : Int) ∧ (c.toNat : Int) < 48) ∨ (48 ≤ (c.toNat : Int) ∧ (c.toNat : Int) ≤ 57) ∨ (57 < (c.toNat : Int) ∧ (c.toNat : Int) < 65) ∨ (65 ≤ (c.toNat : Int) ∧ (c.toNat : Int) ≤ 90) ∨
      (90 < (c.toNat : Int) ∧ (c.toNat : Int) < 97) ∨ (97 ≤ (c.toNat : Int) ∧ (c.toNat : Int) ≤ 122) ∨ 122 < (c.toNat : Int) := by omega
  have HIN := Lib.hid hin
  clear hin
  rcases hc with hc | hc | ⟨hc, hd⟩ | ⟨hc, hd⟩ | ⟨hc, hd⟩ | ⟨hc, hd⟩ | ⟨hc, hd⟩ | ⟨hc, hd⟩ | hc
  · have E : Hid (idB c = false) := Lib.hid (by unfold idB okB; rw [HIN.out]; simp; omega)
    have e45 : ((c.toNat : Int) == 45) = false := by simp; omega
    go_enter Try.func88, Try.ntmps88
    go_wp2
    go_ret
    exact ⟨ret_bool (by rw [E.out]), rfl⟩
  · have E : Hid (idB c = true) := Lib.hid (by unfold idB okB; rw [HIN.out]; simp; omega)
    have e45 : ((c.toNat : Int) == 45) = true := by simpa using hc
    have h2 : (c.toNat : Int) < 48 := by omega
    clear hc
    go_enter Try.func88, Try.ntmps88
    go_wp2
    go_ret
    exact ⟨ret_bool (by rw [E.out]), rfl⟩
  · have E : Hid (idB c = false) := Lib.hid (by unfold idB okB; rw [HIN.out]; simp; omega)
    have e45 : ((c.toNat : Int) == 45) = false := by simp; omega
    go_enter Try.func88, Try.ntmps88
    go_wp2
    go_ret
    exact ⟨ret_bool (by rw [E.out]), rfl⟩
  · have E : Hid (idB c = true) := Lib.hid (by unfold idB okB; rw [HIN.out]; simp; omega)
    have e45 : ((c.toNat : Int) == 45) = false := by simp; omega
    go_enter Try.func88, Try.ntmps88
    go_wp2
    go_ret
    exact ⟨ret_bool (by rw [E.out]), rfl⟩
  · have E : Hid (idB c = false) := Lib.hid (by unfold idB okB; rw [HIN.out]; simp; omega)
    have e45 : ((c.toNat : Int) == 45) = false := by simp; omega
    have e57 : decide ((c.toNat : Int) ≤ 57) = false := by simp; omega
    go_enter Try.func88, Try.ntmps88
    go_wp2
    go_ret
    exact ⟨ret_bool (by rw [E.out]), rfl⟩
  · have E : Hid (idB c = true) := Lib.hid (by unfold idB okB; rw [HIN.out]; simp; omega)
    have e45 : ((c.toNat : Int) == 45) = false := by simp; omega
    have e57 : decide ((c.toNat : Int) ≤ 57) = false := by simp; omega
    go_enter Try.func88, Try.ntmps88
    go_wp2
    go_ret
    exact ⟨ret_bool (by rw [E.out]), rfl⟩
  · have E : Hid (idB c = false) := Lib.hid (by unfold idB okB; rw [HIN.out]; simp; omega)
    have e45 : ((c.toNat : Int) == 45) = false := by simp; omega
    have e57 : decide ((c.toNat : Int) ≤ 57) = false := by simp; omega
    have e90 : decide ((c.toNat : Int) ≤ 90) = false := by simp; omega
    go_enter Try.func88, Try.ntmps88
    go_wp2
    go_ret
    exact ⟨ret_bool (by rw [E.out]), rfl⟩
  · have E : Hid (idB c = true) := Lib.hid (by unfold idB okB; rw [HIN.out]; simp; omega)
    have e45 : ((c.toNat : Int) == 45) = false := by simp; omega
    have e57 : decide ((c.toNat : Int) ≤ 57) = false := by simp; omega
    have e90 : decide ((c.toNat : Int) ≤ 90) = false := by simp; omega
    go_enter Try.func88, Try.ntmps88
    go_wp2
    go_ret
    exact ⟨ret_bool (by rw [E.out]), rfl⟩
  · have E : Hid (idB c = false) := Lib.hid (by unfold idB okB; rw [HIN.out]; simp; omega)
    have e45 : ((c.toNat : Int) == 45) = false := by simp; omega
    have e57 : decide ((c.toNat : Int) ≤ 57) = false := by simp; omega
    have e90 : decide ((c.toNat : Int) ≤ 90) = false := by simp; omega
    have e122 : decide ((c.toNat : Int) ≤ 122) = false := by simp; omega
    go_enter Try.func88, Try.ntmps88
    go_wp2
    go_ret
    exact ⟨ret_bool (by rw [E.out]), rfl⟩
theorem below_dr {w : World} (h : Below w.heap.size w w) (n : Nat) : Below w.heap.size w (w.drewN n) := ⟨rfl, rfl, rfl, Nat.le_refl _, fun _ _ => rfl⟩
theorem isD_yes {c : UInt8} (h1 : 48 ≤ (c.toNat : Int)) (h2 : (c.toNat : Int) ≤ 57) : isD c = true := by unfold isD; simp; omega
theorem isD_no {c : UInt8} (h : (c.toNat : Int) < 48 ∨ 57 < (c.toNat : Int)) : isD c = false := by unfold isD; simp; omega
theorem take_isD {s : ByteArray} {k : Nat} (hk : k < s.size) (h : ∀ c ∈ s.data.toList.take k, isD c = true) (hc : isD s[k] = true) : ∀ c ∈ s.data.toList.take (k + 1), isD c = true := by
  rw [take_snoc s k hk]
  intro c hm
  rcases List.mem_append.1 hm with hm | hm
  · exact h c hm
  · simp at hm; rw [hm]; exact hc

theorem spanI_at {s : ByteArray} {k : Nat} (h1 : ∀ c ∈ s.data.toList.take k, isD c = true) (h2 : k = s.data.toList.length ∨ ∃ c, s.data.toList[k]? = some c ∧ isD c = false) :
    spanI s.data.toList = if numB (s.data.toList.take k) then some (s.data.toList.take k, s.data.toList.drop k) else none := by
  obtain ⟨e1, e2⟩ := takeWhile_at h1 h2
  unfold spanI
  rw [e1, e2]
theorem numB_take {s : ByteArray} {k : Nat} (hk1 : 1 ≤ k) (hk : k ≤ s.size) (h0 : 0 < s.size) (h1 : ∀ c ∈ s.data.toList.take k, isD c = true) : numB (s.data.toList.take k) = (decide (k = 1) || (s.data.toList[0]? != some 48)) := by
  have hd : digB (s.data.toList.take k) = true := digB_iff.2 ⟨by intro e; have := congrArg List.length e; rw [List.length_take, size_len] at this; simp only [List.length_nil] at this; omega, h1⟩
  unfold numB
  rw [hd, List.length_take, size_len, List.getElem?_take_of_lt (by omega), show min k s.size = k by omega]
  simp

set_option maxHeartbeats 1000000 in
theorem parseInt_any (s : ByteArray) (w : World) (hs : s.size ≤ 4294967296) :
    Calls Try.prog 72 #[.string s] w fun e w' => OptE (spanI s.data.toList) e ∧ Below w.heap.size w w' := by
  have hb0 := Lib.hid (Below.refl w.heap.size w)
  by_cases h0 : s.size = 0
  · have he : s.toList.isEmpty = true := by
      rw [Lib.toList_data, List.isEmpty_iff]
      exact List.eq_nil_of_length_eq_zero (by rw [size_len]; exact h0)
    have E : Hid (spanI s.data.toList = none) := Lib.hid (by rw [Lib.toList_data, List.isEmpty_iff] at he; rw [he]; rfl)
    clear h0
    go_enter Try.func72, Try.ntmps72
    go_wp2
    go_ret3
    exact ⟨OptE.no E.out, hb0.out⟩
  · have hp : 0 < s.size := by omega
    have he : s.toList.isEmpty = false := by
      rw [Lib.toList_data]; cases h : s.data.toList with
      | nil => exfalso; apply h0; rw [← size_len, h]; rfl
      | cons => rfl
    clear h0
    have B0 := Lib.hid (byte_at' s 0 hp)
    by_cases hd : 48 ≤ (s[0].toNat : Int) ∧ (s[0].toNat : Int) ≤ 57
    · obtain ⟨hd1, hd2⟩ := hd
      have hd3 : ¬ (57 < (s[0].toNat : Int)) := by omega
      have H1 : Hid (∀ c ∈ s.data.toList.take 1, isD c = true) := Lib.hid (fun c hc => by
        have := take_isD (k := 0) hp (by simp) (isD_yes hd1 hd2)
        exact this c hc)
      go_enter Try.func72, Try.ntmps72
      go_wp2
      go_loop [5] (fun i => ∃ k : Nat, 1 ≤ k ∧ k ≤ s.size ∧ i = .int .i64 k ∧ Hid (∀ c ∈ s.data.toList.take k, isD c = true)) (fun i => s.size - (intOf i).toNat)
      case atStart => exact ⟨1, Nat.le_refl _, hp, rfl, H1⟩
      case round =>
        obtain ⟨k, hk1, hk, rfl, hall⟩ := hrel
        have fin : (k = s.data.toList.length ∨ ∃ c, s.data.toList[k]? = some c ∧ isD c = false) → spanI s.data.toList = if (decide (k = 1) || (s.data.toList[0]? != some 48)) = true then some ((s.extract 0 k).data.toList, (s.extract k s.size).data.toList) else none := fun h2 => by
          rw [spanI_at hall.out h2, numB_take hk1 hk hp hall.out, extract_take, extract_drop]
        have FIN := Lib.hid fin
        clear fin
        by_cases hlt : k < s.size
        · by_cases hq : 48 ≤ (s[k].toNat : Int) ∧ (s[k].toNat : Int) ≤ 57
          · obtain ⟨hq1, hq2⟩ := hq
            have HN := Lib.hid (take_isD hlt hall.out (isD_yes hq1 hq2))
            go_wp2
            go_round
            case rel => exact ⟨k + 1, by omega, by omega, by go_num, HN⟩
            case measure => simp [intOf]; omega
          · have FIN2 := Lib.hid (FIN.out (.inr ⟨_, byte_at' s k hlt, isD_no (by omega)⟩))
            have hcl : (s[k].toNat : Int) < 48 ∨ (48 ≤ (s[k].toNat : Int) ∧ 57 < (s[k].toNat : Int)) := by omega
            clear hq FIN
            rcases hcl with hq | ⟨hq1, hq2⟩
            all_goals
              rcases bool_or ((s[0].toNat : Int) == 48) with hz | hz
              · by_cases hk2 : k = 1
                · have E : Hid (spanI s.data.toList = some ((s.extract 0 k).data.toList, (s.extract k s.size).data.toList)) := Lib.hid (by
                    rw [FIN2.out, if_pos (by simp [hk2])])
                  have hk3 : k ≤ 1 := by omega
                  have e1 : ((k : Int) != 1) = false := by simp; omega
                  clear hk2
                  go_wp2
                  go_quiet (fail)
                  go_wp2
                  go_ret3
                  exact ⟨OptE.yes E.out, below_dr hb0.out _⟩
                · have E : Hid (spanI s.data.toList = none) := Lib.hid (by
                    rw [FIN2.out, if_neg]
                    rw [byte_is (h := hp) (c := 48) (by simpa using hz)]
                    simp [hk2])
                  have e1 : ((k : Int) != 1) = true := by simp; omega
                  clear hk2
                  go_wp2
                  go_ret3
                  exact ⟨OptE.no E.out, hb0.out⟩
              · have E : Hid (spanI s.data.toList = some ((s.extract 0 k).data.toList, (s.extract k s.size).data.toList)) := Lib.hid (by
                  rw [FIN2.out, if_pos]
                  exact (Bool.or_eq_true _ _).mpr (.inr (bne_iff_ne.2 (byte_isnt (p := s) (h := hp) (c := 48) (by simpa using hz)))))
                go_wp2
                go_quiet (fail)
                go_wp2
                go_ret3
                exact ⟨OptE.yes E.out, below_dr hb0.out _⟩
        · have FIN2 := Lib.hid (FIN.out (.inl (by rw [size_len]; omega)))
          clear FIN
          rcases bool_or ((s[0].toNat : Int) == 48) with hz | hz
          · by_cases hk2 : k = 1
            · have E : Hid (spanI s.data.toList = some ((s.extract 0 k).data.toList, (s.extract k s.size).data.toList)) := Lib.hid (by
                rw [FIN2.out, if_pos (by simp [hk2])])
              have hk3 : k ≤ 1 := by omega
              have e1 : ((k : Int) != 1) = false := by simp; omega
              clear hk2
              go_wp2
              go_quiet (fail)
              go_wp2
              go_ret3
              exact ⟨OptE.yes E.out, below_dr hb0.out _⟩
            · have E : Hid (spanI s.data.toList = none) := Lib.hid (by
                rw [FIN2.out, if_neg]
                rw [byte_is (h := hp) (c := 48) (by simpa using hz)]
                simp [hk2])
              have e1 : ((k : Int) != 1) = true := by simp; omega
              clear hk2
              go_wp2
              go_ret3
              exact ⟨OptE.no E.out, hb0.out⟩
          · have E : Hid (spanI s.data.toList = some ((s.extract 0 k).data.toList, (s.extract k s.size).data.toList)) := Lib.hid (by
              rw [FIN2.out, if_pos]
              exact (Bool.or_eq_true _ _).mpr (.inr (bne_iff_ne.2 (byte_isnt (p := s) (h := hp) (c := 48) (by simpa using hz)))))
            go_wp2
            go_quiet (fail)
            go_wp2
            go_ret3
            exact ⟨OptE.yes E.out, below_dr hb0.out _⟩
    · have E : Hid (spanI s.data.toList = none) := Lib.hid (by
        rw [spanI_at (k := 0) (by simp) (.inr ⟨_, B0.out, isD_no (by omega)⟩)]; rfl)
      have hcl : (s[0].toNat : Int) < 48 ∨ (48 ≤ (s[0].toNat : Int) ∧ 57 < (s[0].toNat : Int)) := by omega
      clear hd
      rcases hcl with hq | ⟨hq1, hq2⟩
      all_goals
        go_enter Try.func72, Try.ntmps72
        go_wp2
        go_ret3
        exact ⟨OptE.no E.out, hb0.out⟩

end Go.Proofs.Ytdinaphcglmhoaa
