/-
  The walk of path.scanChunk: some pieces, the rest shorter; and, of a pattern without brackets and backslashes, the pieces themselves.
-/
import Derived.Test.YtdinaphcglmhoaaDoorGlobQ
import Derived.Test.YtdinaphcglmhoaaDoorZz
namespace Go.Proofs.YtdinaphcglmhoaaDoor
open Go.RowKit
set_option linter.unusedVariables false

def ScanE (p : Bs) (w : World) (e : Ending) (w' : World) : Prop := ∃ (st : Bool) (ch rest : ByteArray), e = .returned (.tuple #[.bool st, .string ch, .string rest]) ∧ ch.size ≤ p.length ∧ rest.size ≤ p.length ∧ (0 < p.length → rest.size < p.length) ∧
  (simP p → st = decide (p[0]? = some 42) ∧ ch.data.toList = chunkG p ∧ rest.data.toList = restG p) ∧ Below w.heap.size w w'

theorem body_drop (p : Bs) (k : Nat) (h : ∀ c ∈ p.take k, c = 42) : bodyG (p.drop k) = bodyG p := by
  induction k generalizing p with
  | zero => rfl
  | succ k ih =>
    cases p with
    | nil => rfl
    | cons c p =>
      have hc : c = 42 := h c (by simp)
      have : bodyG (c :: p) = bodyG p := by simp [bodyG, hc]
      rw [this, ← ih p (fun d hd => h d (by simp [hd]))]
      rfl
theorem tw_take (f : UInt8 → Bool) (l : Bs) (k : Nat) (h : ∀ c ∈ l.take k, f c = true) (h2 : k = l.length ∨ ∃ c, l[k]? = some c ∧ f c = false) : l.takeWhile f = l.take k ∧ l.dropWhile f = l.drop k := by
  induction l generalizing k with
  | nil => simp
  | cons c l ih =>
    cases k with
    | zero =>
      rcases h2 with h2 | ⟨d, h2, h3⟩
      · simp at h2
      · simp at h2; subst h2; simp [h3]
    | succ k =>
      have hc : f c = true := h c (by simp)
      obtain ⟨i1, i2⟩ := ih k (fun d hd => h d (by simp [hd])) (by
        rcases h2 with h2 | ⟨d, h2, h3⟩
        · left; simpa using h2
        · right; exact ⟨d, by simpa using h2, h3⟩)
      simp [hc, i1, i2]
theorem ascii42 {s : ByteArray} {k : Nat} (hk : k < s.size) {b : UInt8} : ((s[k].toNat : Int) == (b.toNat : Int)) = (s[k] == b) := by
  rw [Bool.eq_iff_iff]; simp
  constructor
  · intro h; exact UInt8.toNat_inj.1 (by omega)
  · intro h; rw [h]

set_option maxHeartbeats 8000000 in
theorem scan_any (p : ByteArray) (w : World) (hp : p.size ≤ 4294967296) :
    Calls Tryd.prog 24 #[.string p] w (ScanE p.data.toList w) := by
  have HB0 := Lib.hid (Below.refl w.heap.size w)
  go_enter Tryd.func24, Tryd.ntmps24
  go_wp2
  go_loop [0, 2] (fun q st => ∃ (k : Nat) (v : ByteArray) (t : Bool), k ≤ p.size ∧ q = .string v ∧ st = .bool t ∧ v.size + k ≤ p.size ∧ p.size ≤ v.size + k ∧ Hid (v.data.toList = p.data.toList.drop k) ∧ Hid (∀ c ∈ p.data.toList.take k, c = 42) ∧ Hid (t = decide (0 < k))) (fun q _ => match q with | .string v => v.size | _ => 0)
  case atStart => exact ⟨0, p, false, Nat.zero_le _, rfl, rfl, by omega, by omega, Lib.hid (by simp), Lib.hid (by simp), Lib.hid rfl⟩
  case round =>
    obtain ⟨k, v, t, hk, rfl, rfl, hvs, hvs2, HV, HA, HT⟩ := hrel
    have hex : v.size = 0 ∨ (∃ h0 : 0 < v.size, v[0] = 42) ∨ (∃ h0 : 0 < v.size, v[0] ≠ 42) := by
      by_cases h0 : 0 < v.size
      · by_cases h : v[0] = 42
        · exact .inr (.inl ⟨h0, h⟩)
        · exact .inr (.inr ⟨h0, h⟩)
      · left; omega
    rcases hex with hz | ⟨h0, h42⟩ | ⟨h0, h42⟩
    · have hz' : v.size ≤ 0 := by omega
      have hkn : k = p.size := by omega
      have F : Hid (simP p.data.toList → t = decide (p.data.toList[0]? = some 42) ∧ v.data.toList = chunkG p.data.toList ∧ ([] : Bs) = restG p.data.toList) := Lib.hid (by
        intro _
        have hb : bodyG p.data.toList = [] := by
          rw [← body_drop _ k HA.out, hkn, ← size_len, List.drop_length]; rfl
        refine ⟨?_, ?_, ?_⟩
        · rw [HT.out, Bool.eq_iff_iff, decide_eq_true_eq, decide_eq_true_eq]
          constructor
          · intro hk0
            have := HA.out (p.data.toList[0]'(by rw [size_len]; omega)) (by
              rw [List.mem_take_iff_getElem]; exact ⟨0, by simp; omega, rfl⟩)
            rw [List.getElem?_eq_getElem (by rw [size_len]; omega), this]
          · intro h
            have := (List.getElem?_eq_some_iff.1 h).1
            rw [size_len] at this; omega
        · unfold chunkG; rw [hb, HV.out, hkn, ← size_len, List.drop_length]; rfl
        · unfold restG; rw [hb]; rfl)
      clear hkn hz
      go_wp2
      go_loop [2, 5, 6] (fun st r i => ∃ (b : Bool) (j : Nat), j ≤ v.size ∧ st = .bool t ∧ i = .int .i64 j ∧ r = .bool b) (fun _ _ i => v.size - (intOf i).toNat)
      case atStart => exact ⟨false, 0, Nat.zero_le _, rfl, rfl, rfl⟩
      case round =>
        obtain ⟨b, j, hj, rfl, rfl, rfl⟩ := hrel
        go_wp2
        go_ret3
        exact ⟨t, v, ⟨#[]⟩, rfl, by rw [size_len]; omega, Nat.zero_le _, fun h => h, F.out, HB0.out⟩
    · have e42 : ((v[0].toNat : Int) == 42) = true := by rw [h42]; rfl
      have F1 : Hid ((v.extract 1 v.size).data.toList = p.data.toList.drop (k + 1)) := Lib.hid (by rw [extract_drop, HV.out, List.drop_drop])
      have F2 : Hid (∀ c ∈ p.data.toList.take (k + 1), c = 42) := Lib.hid (by
        have hkp : k < p.size := by omega
        rw [take_snoc p k hkp]
        intro c hc
        rcases List.mem_append.1 hc with hc | hc
        · exact HA.out c hc
        · have hc' : c = p[k] := by simpa using hc
          have e1 := byte_at' v 0 h0
          rw [HV.out, List.getElem?_drop, Nat.add_zero, byte_at' p k hkp] at e1
          injection e1 with e1
          rw [hc', e1]; exact h42)
      have F3 : Hid (true = decide (0 < k + 1)) := Lib.hid (by simp)
      clear h42
      go_wp2
      go_round
      case rel => exact ⟨k + 1, v.extract 1 v.size, true, by omega, rfl, rfl, by simp; omega, by simp; omega, F1, F2, F3⟩
      case measure => simp; omega
    · have e42 : ((v[0].toNat : Int) == 42) = false := by
        rw [beq_eq_false_iff_ne]; intro e; exact h42 (UInt8.toNat_inj.1 (by show v[0].toNat = 42; omega))
      have HB : Hid (bodyG p.data.toList = v.data.toList) := Lib.hid (by
        rw [← body_drop _ k HA.out, ← HV.out]
        refine body_id ?_
        rw [byte_at' v 0 h0]; intro e; injection e with e; exact h42 e)
      have HS : Hid (t = decide (p.data.toList[0]? = some 42)) := Lib.hid (by
        rw [HT.out, Bool.eq_iff_iff, decide_eq_true_eq, decide_eq_true_eq]
        constructor
        · intro hk0
          have := HA.out (p.data.toList[0]'(by rw [size_len]; omega)) (by
            rw [List.mem_take_iff_getElem]; exact ⟨0, by simp; omega, rfl⟩)
          rw [List.getElem?_eq_getElem (by rw [size_len]; omega), this]
        · intro h
          by_cases hk0 : 0 < k
          · exact hk0
          · exfalso
            have hk0' : k = 0 := by omega
            have e1 := byte_at' v 0 h0
            rw [HV.out, hk0', List.drop_zero, h] at e1
            injection e1 with e1
            exact h42 e1.symm)
      have HM : Hid (∀ (j : Nat) (hj : j < v.size), v[j] ∈ p.data.toList) := Lib.hid (fun j hj => by
        have := get_mem v j hj
        rw [HV.out] at this
        exact List.mem_of_mem_drop this)
      have H0 : Hid (v.data.toList[0]? ≠ some 42) := Lib.hid (by rw [byte_at' v 0 h0]; intro e; injection e with e; exact h42 e)
      clear h42 HV HA HT
      have hvp : v.size ≤ p.size := by omega
      clear hvs hvs2
      go_wp2
      go_loop [2, 5, 6] (fun st r i => ∃ (b : Bool) (j : Nat), j ≤ v.size ∧ st = .bool t ∧ i = .int .i64 j ∧ r = .bool b ∧ Hid (simP p.data.toList → b = false ∧ ∀ c ∈ v.data.toList.take j, ns c = true)) (fun _ _ i => v.size - (intOf i).toNat)
      case atStart => exact ⟨false, 0, Nat.zero_le _, rfl, rfl, rfl, Lib.hid (fun _ => ⟨rfl, by simp⟩)⟩
      case round =>
        obtain ⟨b, j, hj, rfl, rfl, rfl, HR⟩ := hrel
        by_cases hlt : j < v.size
        · have e92 : ((v[j].toNat : Int) == 92) = (v[j] == 92) := ascii42 (b := 92) hlt
          have e91 : ((v[j].toNat : Int) == 91) = (v[j] == 91) := ascii42 (b := 91) hlt
          have e93 : ((v[j].toNat : Int) == 93) = (v[j] == 93) := ascii42 (b := 93) hlt
          have e42' : ((v[j].toNat : Int) == 42) = (v[j] == 42) := ascii42 (b := 42) hlt
          have HJ := Lib.hid (HM.out j hlt)
          have HTK := Lib.hid (take_snoc v j hlt)
          have HAT := Lib.hid (byte_at' v j hlt)
          by_cases x92 : v[j] = 92
          · have F : Hid (¬ simP p.data.toList) := Lib.hid (fun h => h.2 (by rw [← x92]; exact HJ.out))
            have t92 : ((v[j].toNat : Int) == 92) = true := by rw [e92]; simpa using x92
            clear e92 e91 e93 e42' x92
            by_cases hn : j + 1 < v.size
            · go_wp2
              go_round
              case rel => exact ⟨b, j + 1 + 1, by omega, rfl, by go_num, rfl, Lib.hid (fun h => absurd h F.out)⟩
              case measure => simp [intOf]; omega
            · go_wp2
              go_round
              case rel => exact ⟨b, j + 1, by omega, rfl, by go_num, rfl, Lib.hid (fun h => absurd h F.out)⟩
              case measure => simp [intOf]; omega
          · have t92 : ((v[j].toNat : Int) == 92) = false := by rw [e92]; simpa using x92
            by_cases x91 : v[j] = 91
            · have F : Hid (¬ simP p.data.toList) := Lib.hid (fun h => h.1 (by rw [← x91]; exact HJ.out))
              have t91 : ((v[j].toNat : Int) == 91) = true := by rw [e91]; simpa using x91
              clear e92 e91 e93 e42' x92 x91
              go_wp2
              go_round
              case rel => exact ⟨true, j + 1, by omega, rfl, by go_num, rfl, Lib.hid (fun h => absurd h F.out)⟩
              case measure => simp [intOf]; omega
            · have t91 : ((v[j].toNat : Int) == 91) = false := by rw [e91]; simpa using x91
              by_cases x93 : v[j] = 93
              · have F : Hid (simP p.data.toList → false = false ∧ ∀ c ∈ v.data.toList.take (j + 1), ns c = true) := Lib.hid (fun h => ⟨rfl, by
                  rw [HTK.out]
                  intro c hc
                  rcases List.mem_append.1 hc with hc | hc
                  · exact (HR.out h).2 c hc
                  · have : c = v[j] := by simpa using hc
                    rw [this, x93]; rfl⟩)
                have t93 : ((v[j].toNat : Int) == 93) = true := by rw [e93]; simpa using x93
                clear e92 e91 e93 e42' x92 x91 x93
                go_wp2
                go_round
                case rel => exact ⟨false, j + 1, by omega, rfl, by go_num, rfl, F⟩
                case measure => simp [intOf]; omega
              · have t93 : ((v[j].toNat : Int) == 93) = false := by rw [e93]; simpa using x93
                by_cases x42 : v[j] = 42
                · have t42 : ((v[j].toNat : Int) == 42) = true := by rw [e42']; simpa using x42
                  cases b
                  · have hj0 : 0 < j := by
                      rcases Nat.eq_zero_or_pos j with h | h
                      · exfalso
                        have e := HAT.out
                        rw [x42] at e
                        rw [h] at e
                        exact H0.out e
                      · exact h
                    have F : Hid (simP p.data.toList → t = decide (p.data.toList[0]? = some 42) ∧ (v.extract 0 j).data.toList = chunkG p.data.toList ∧ (v.extract j v.size).data.toList = restG p.data.toList) := Lib.hid (fun h => by
                      obtain ⟨r1, r2⟩ := tw_take ns v.data.toList j (HR.out h).2 (.inr ⟨42, by rw [HAT.out, x42], rfl⟩)
                      refine ⟨HS.out, ?_, ?_⟩
                      · unfold chunkG; rw [HB.out, extract_take]; exact r1.symm
                      · unfold restG; rw [HB.out, extract_drop]; exact r2.symm)
                    clear e92 e91 e93 e42' x92 x91 x93 x42
                    go_wp2
                    go_quiet (fail)
                    go_wp2
                    go_ret3
                    exact ⟨t, v.extract 0 j, v.extract j v.size, rfl, by rw [size_len]; simp; omega, by rw [size_len]; simp; omega, fun _ => by rw [size_len]; simp; omega, F.out, below_dq HB0.out _⟩
                  · have F : Hid (¬ simP p.data.toList) := Lib.hid (fun h => by have := (HR.out h).1; cases this)
                    clear e92 e91 e93 e42' x92 x91 x93 x42
                    go_wp2
                    go_round
                    case rel => exact ⟨true, j + 1, by omega, rfl, by go_num, rfl, Lib.hid (fun h => absurd h F.out)⟩
                    case measure => simp [intOf]; omega
                · have t42 : ((v[j].toNat : Int) == 42) = false := by rw [e42']; simpa using x42
                  have F : Hid (simP p.data.toList → b = false ∧ ∀ c ∈ v.data.toList.take (j + 1), ns c = true) := Lib.hid (fun h => ⟨(HR.out h).1, by
                    rw [HTK.out]
                    intro c hc
                    rcases List.mem_append.1 hc with hc | hc
                    · exact (HR.out h).2 c hc
                    · have : c = v[j] := by simpa using hc
                      rw [this]; simpa [ns] using x42⟩)
                  clear e92 e91 e93 e42' x92 x91 x93 x42
                  go_wp2
                  go_round
                  case rel => exact ⟨b, j + 1, by omega, rfl, by go_num, rfl, F⟩
                  case measure => simp [intOf]; omega
        · have hje : j = v.size := by omega
          have F : Hid (simP p.data.toList → t = decide (p.data.toList[0]? = some 42) ∧ v.data.toList = chunkG p.data.toList ∧ ([] : Bs) = restG p.data.toList) := Lib.hid (fun h => by
            obtain ⟨r1, r2⟩ := tw_take ns v.data.toList j (HR.out h).2 (.inl (by rw [size_len]; exact hje))
            refine ⟨HS.out, ?_, ?_⟩
            · unfold chunkG; rw [HB.out, r1, take_all v j (by omega)]
            · unfold restG; rw [HB.out, r2, hje, ← size_len, List.drop_length])
          clear hje
          go_wp2
          go_ret3
          exact ⟨t, v, ⟨#[]⟩, rfl, by rw [size_len]; omega, Nat.zero_le _, fun h => h, F.out, HB0.out⟩
end Go.Proofs.YtdinaphcglmhoaaDoor
