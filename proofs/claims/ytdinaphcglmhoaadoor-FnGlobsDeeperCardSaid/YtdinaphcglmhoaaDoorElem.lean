/-
  The walks of spec.reserved, spec.element, spec.path: each hands back some number; nothing more is asked of them.
-/
import Derived.Test.YtdinaphcglmhoaaDoorSmall
namespace Go.Proofs.YtdinaphcglmhoaaDoor
open Go.RowKit

set_option maxHeartbeats 1000000 in
theorem reserved_any (s : ByteArray) (w : World) (hs : s.size ≤ 4294967296) :
    Calls Tryd.prog 28 #[.string s] w fun e w' => SomeInt e ∧ Below w.heap.size w w' := by
  go_enter Tryd.func28, Tryd.ntmps28
  go_wp2_with fail
  refine (cut_any s 46 w hs).mono ?_
  rintro e w1 ⟨g, cap, rfl, hrow, hb⟩
  have hne := List.length_pos_iff.2 (cutL_ne s.data.toList 46)
  have hsz : ∀ x ∈ cutL s.data.toList 46, x.length ≤ s.size := by have := cutL_size s.data.toList 46; simpa using this
  generalize cutL s.data.toList 46 = L at *
  have hcell := hrow.at_ 0 hne
  have hx : (tx L[0]).size ≤ maxLen := by
    have := hsz _ (List.getElem_mem (l := L) (n := 0) hne)
    simp only [tx_size]; unfold maxLen; omega
  generalize tx L[0] = p at *
  clear hsz hrow
  go_wp2_with fail
  refine (great_any p _ hx).mono ?_
  rintro e w2 ⟨⟨t, ht, rfl⟩, hb2⟩
  have hb3 := Lib.hid (below_tr hb hb2)
  have htm : t.size ≤ maxLen := by omega
  unfold maxLen at htm
  clear ht hx hcell hb hb2 hne
  go_wp2
  all_goals try (go_ret; exact ⟨⟨_, rfl⟩, hb3.out⟩)
  all_goals
    have hb4 := Lib.hid (below_al hb3.out (.cells #[.string ⟨#[67, 79, 78]⟩, .string ⟨#[80, 82, 78]⟩, .string ⟨#[65, 85, 88]⟩, .string ⟨#[78, 85, 76]⟩] 9))
    have hcells : ∀ k : Nat, k < 4 → ∃ x : ByteArray, (w2.alloc (.cells #[.string ⟨#[67, 79, 78]⟩, .string ⟨#[80, 82, 78]⟩, .string ⟨#[65, 85, 88]⟩, .string ⟨#[78, 85, 76]⟩] 9)).cell? ⟨w2.heap.size, k, none⟩ = some (.string x) := by
      intro k hk
      rw [World.cell?_alloc_at _ _ _ _ rfl]
      match k, hk with
      | 0, _ => exact ⟨_, rfl⟩
      | 1, _ => exact ⟨_, rfl⟩
      | 2, _ => exact ⟨_, rfl⟩
      | 3, _ => exact ⟨_, rfl⟩
    have HC := Lib.hid hcells
    clear hcells
    go_loop [31] (fun i => ∃ k : Nat, k ≤ 4 ∧ i = .int .i64 k) (fun i => 4 - (intOf i).toNat)
    case atStart => exact ⟨0, Nat.zero_le _, rfl⟩
    case round =>
      obtain ⟨k, hk, rfl⟩ := hrel
      by_cases hlt : k < 4
      · obtain ⟨x, hx⟩ := HC.out k hlt
        go_wp2
        · go_ret
          exact ⟨⟨_, rfl⟩, hb4.out⟩
        · go_round
          case rel => exact ⟨k + 1, by omega, by go_num⟩
          case measure => simp [intOf]; omega
      · go_wp2
        all_goals (go_ret; exact ⟨⟨_, rfl⟩, hb4.out⟩)

/-- what follows once the name is one that may be asked whether it is kept -/
theorem bool_two (b : Bool) : b = true ∨ b = false := by cases b <;> simp

set_option maxHeartbeats 4000000 in
theorem element_any (s : ByteArray) (f : Bool) (w : World) (hs : s.size ≤ 4294967296) :
    Calls Tryd.prog 21 #[.string s, .bool f] w fun e w' => SomeInt e ∧ Below w.heap.size w w' := by
  have hm : s.size ≤ maxLen := by unfold maxLen; omega
  have ho1 : (⟨#[45, 46, 95, 126]⟩ : ByteArray).size ≤ maxLen := by decide
  have ho2 : (⟨#[32, 33, 35, 36, 37, 38, 40, 41, 43, 44, 45, 46, 61, 64, 91, 93, 94, 95, 123, 125, 126]⟩ : ByteArray).size ≤ maxLen := by decide
  have hb0 := Lib.hid (Below.refl w.heap.size w)
  by_cases h0 : s.size = 0
  · have he : s.toList.isEmpty = true := by
      rw [Lib.toList_data, List.isEmpty_iff]
      exact List.eq_nil_of_length_eq_zero (by rw [size_len]; exact h0)
    clear h0
    cases f
    all_goals
      go_enter Tryd.func21, Tryd.ntmps21
      go_wp2
      go_ret
      exact ⟨⟨_, rfl⟩, hb0.out⟩
  · have hp : 0 < s.size := by omega
    have he : s.toList.isEmpty = false := by
      rw [Lib.toList_data]; cases h : s.data.toList with
      | nil => exfalso; apply h0; rw [← size_len, h]; rfl
      | cons => rfl
    have hi : s.size - 1 < s.size := by omega
    clear h0
    rcases bool_two ((s[s.size - 1].toNat : Int) == 46) with hd | hd
    · cases f
      all_goals
        go_enter Tryd.func21, Tryd.ntmps21
        go_wp2
        go_ret
        exact ⟨⟨_, rfl⟩, hb0.out⟩
    · cases f
      · rcases bool_two (allB s.data.toList true true [45, 46, 95, 126]) with ha | ha
        all_goals rcases bool_two (asciiB s.data.toList) with hc | hc
        all_goals rcases bool_two (inB s.data.toList 46) with hn | hn
        all_goals
          go_enter Tryd.func21, Tryd.ntmps21
          go_wp2_with (first | (go_at_call 27; refine (all_any _ _ _ _ _ hm (by assumption)).mono ?_; rintro e w' ⟨rfl, rfl⟩) | (go_at_call 11; refine (ascii_any _ _ hm).mono ?_; rintro e w' ⟨rfl, rfl⟩) | (go_at_call 28; refine (reserved_any _ _ hs).mono ?_; rintro e w1 ⟨⟨n, rfl⟩, hb1⟩; have HB1 := Lib.hid hb1; clear hb1) | (go_at_call 12; refine (in_any _ 46 _ hm).mono ?_; rintro e w' ⟨rfl, rfl⟩) | (go_at_call 29; refine (numbered_any _ _ hm).mono ?_; rintro e w' ⟨⟨b, rfl⟩, rfl⟩; cases b) | (go_at_call 30; refine (short_any _ _ hs).mono ?_; rintro e w2 ⟨⟨b, rfl⟩, hb2⟩; have HB2 := Lib.hid (below_tr HB1.out hb2); clear hb2; cases b) | (go_at_call 20; refine (join_any _ _ _).mono ?_; rintro e w' ⟨rfl, rfl⟩))
        all_goals try (go_ret; exact ⟨⟨_, rfl⟩, by first | exact hb0.out | exact HB2.out | exact HB1.out⟩)
        all_goals
          go_loop [7] (fun i => ∃ k : Nat, 1 ≤ k ∧ k ≤ s.size + 1 ∧ i = .int .i64 k) (fun i => s.size + 1 - (intOf i).toNat)
          case atStart => exact ⟨1, Nat.le_refl _, by omega, rfl⟩
          case round =>
            obtain ⟨k, h1, hk, rfl⟩ := hrel
            by_cases hlt : k < s.size
            · have hj : k - 1 < s.size := by omega
              have h3 : (0 : Int) ≤ (k : Int) - 1 := by omega
              have h4 : ((k : Int) - 1).toNat = k - 1 := by omega
              rcases bool_two ((s[k].toNat : Int) == 46) with hq | hq
              · rcases bool_two ((s[k - 1].toNat : Int) == 46) with hr | hr
                · go_wp2_with (first | (go_at_call 11; refine (ascii_any _ _ hm).mono ?_; rintro e w' ⟨rfl, rfl⟩) | (go_at_call 20; refine (join_any _ _ _).mono ?_; rintro e w' ⟨rfl, rfl⟩))
                  go_ret
                  exact ⟨⟨_, rfl⟩, HB2.out⟩
                · go_wp2_with (first | (go_at_call 11; refine (ascii_any _ _ hm).mono ?_; rintro e w' ⟨rfl, rfl⟩) | (go_at_call 20; refine (join_any _ _ _).mono ?_; rintro e w' ⟨rfl, rfl⟩))
                  go_round
                  case rel => exact ⟨k + 1, by omega, by omega, by go_num⟩
                  case measure => simp [intOf]; omega
              · go_wp2_with (first | (go_at_call 11; refine (ascii_any _ _ hm).mono ?_; rintro e w' ⟨rfl, rfl⟩) | (go_at_call 20; refine (join_any _ _ _).mono ?_; rintro e w' ⟨rfl, rfl⟩))
                go_round
                case rel => exact ⟨k + 1, by omega, by omega, by go_num⟩
                case measure => simp [intOf]; omega
            · have hz : (0 : Int) ≤ 0 ∧ (0 : Int) < s.size := by omega
              rcases bool_two ((s[s.size - 1].toNat : Int) == 32) with hq | hq
              all_goals rcases bool_two ((s[0].toNat : Int) == 32) with hr | hr
              all_goals
                go_wp2_with (first | (go_at_call 11; refine (ascii_any _ _ hm).mono ?_; rintro e w' ⟨rfl, rfl⟩) | (go_at_call 20; refine (join_any _ _ _).mono ?_; rintro e w' ⟨rfl, rfl⟩))
                go_ret
                exact ⟨⟨_, rfl⟩, HB2.out⟩
      · rcases bool_two (allB s.data.toList true true [32, 33, 35, 36, 37, 38, 40, 41, 43, 44, 45, 46, 61, 64, 91, 93, 94, 95, 123, 125, 126]) with ha | ha
        all_goals rcases bool_two (asciiB s.data.toList) with hc | hc
        all_goals
          go_enter Tryd.func21, Tryd.ntmps21
          go_wp2_with (first | (go_at_call 27; refine (all_any _ _ _ _ _ hm (by assumption)).mono ?_; rintro e w' ⟨rfl, rfl⟩) | (go_at_call 11; refine (ascii_any _ _ hm).mono ?_; rintro e w' ⟨rfl, rfl⟩) | (go_at_call 28; refine (reserved_any _ _ hs).mono ?_; rintro e w1 ⟨⟨n, rfl⟩, hb1⟩; have HB1 := Lib.hid hb1; clear hb1) | (go_at_call 12; refine (in_any _ 46 _ hm).mono ?_; rintro e w' ⟨rfl, rfl⟩) | (go_at_call 29; refine (numbered_any _ _ hm).mono ?_; rintro e w' ⟨⟨b, rfl⟩, rfl⟩; cases b) | (go_at_call 30; refine (short_any _ _ hs).mono ?_; rintro e w2 ⟨⟨b, rfl⟩, hb2⟩; have HB2 := Lib.hid (below_tr HB1.out hb2); clear hb2; cases b) | (go_at_call 20; refine (join_any _ _ _).mono ?_; rintro e w' ⟨rfl, rfl⟩))
        all_goals try (go_ret; exact ⟨⟨_, rfl⟩, by first | exact hb0.out | exact HB2.out | exact HB1.out⟩)
        all_goals
          go_loop [7] (fun i => ∃ k : Nat, 1 ≤ k ∧ k ≤ s.size + 1 ∧ i = .int .i64 k) (fun i => s.size + 1 - (intOf i).toNat)
          case atStart => exact ⟨1, Nat.le_refl _, by omega, rfl⟩
          case round =>
            obtain ⟨k, h1, hk, rfl⟩ := hrel
            by_cases hlt : k < s.size
            · have hj : k - 1 < s.size := by omega
              have h3 : (0 : Int) ≤ (k : Int) - 1 := by omega
              have h4 : ((k : Int) - 1).toNat = k - 1 := by omega
              rcases bool_two ((s[k].toNat : Int) == 46) with hq | hq
              · rcases bool_two ((s[k - 1].toNat : Int) == 46) with hr | hr
                · go_wp2_with (first | (go_at_call 11; refine (ascii_any _ _ hm).mono ?_; rintro e w' ⟨rfl, rfl⟩) | (go_at_call 20; refine (join_any _ _ _).mono ?_; rintro e w' ⟨rfl, rfl⟩))
                  go_ret
                  exact ⟨⟨_, rfl⟩, HB2.out⟩
                · go_wp2_with (first | (go_at_call 11; refine (ascii_any _ _ hm).mono ?_; rintro e w' ⟨rfl, rfl⟩) | (go_at_call 20; refine (join_any _ _ _).mono ?_; rintro e w' ⟨rfl, rfl⟩))
                  go_round
                  case rel => exact ⟨k + 1, by omega, by omega, by go_num⟩
                  case measure => simp [intOf]; omega
              · go_wp2_with (first | (go_at_call 11; refine (ascii_any _ _ hm).mono ?_; rintro e w' ⟨rfl, rfl⟩) | (go_at_call 20; refine (join_any _ _ _).mono ?_; rintro e w' ⟨rfl, rfl⟩))
                go_round
                case rel => exact ⟨k + 1, by omega, by omega, by go_num⟩
                case measure => simp [intOf]; omega
            · have hz : (0 : Int) ≤ 0 ∧ (0 : Int) < s.size := by omega
              rcases bool_two ((s[s.size - 1].toNat : Int) == 32) with hq | hq
              all_goals rcases bool_two ((s[0].toNat : Int) == 32) with hr | hr
              all_goals
                go_wp2_with (first | (go_at_call 11; refine (ascii_any _ _ hm).mono ?_; rintro e w' ⟨rfl, rfl⟩) | (go_at_call 20; refine (join_any _ _ _).mono ?_; rintro e w' ⟨rfl, rfl⟩))
                go_ret
                exact ⟨⟨_, rfl⟩, HB2.out⟩
end Go.Proofs.YtdinaphcglmhoaaDoor
