/-
  The walks of spec.Major, laws.told.
-/
import Derived.Test.YtdinaphcglmhoaaFmtMajP
import Derived.Test.YtdinaphcglmhoaaFmtRead
import Derived.Deep.QuietTactic
import Derived.BigQuiet
namespace Go.Proofs.YtdinaphcglmhoaaFmt
open Go.RowKit
set_option linter.unusedVariables false
set_option linter.unusedSimpArgs false

theorem say_any (b : Bool) (w : World) :
    Calls Tryf.prog 12 #[.bool b] w fun e w' => e = .returned (.int .i64 (if b = true then 1 else 2)) ∧ w = w' := by
  cases b
  all_goals
    go_enter Tryf.func12, Tryf.ntmps12
    go_wp2
    go_ret
    exact ⟨rfl, rfl⟩

theorem say_q (b : Bool) (w : World) :
    Calls Tryf.prog 12 #[.bool b] w fun e w' => e = .returned (.int .i64 (if b = true then 1 else 2)) ∧ w' = w :=
  (say_any b w).mono fun _ _ ⟨h, e⟩ => ⟨h, e.symm⟩
theorem below_dn {g : Nat} {w w' : World} (h : Below g w w') (n : Nat) : Below g w (w'.drewN n) := by
  induction n with
  | zero => exact h
  | succ n ih => exact ih.drew

theorem lit_eq (l k : Bs) : ((tx l).toList == k) = (l == k) := by rw [Lib.toList_data, tx_data]
theorem lit_eq' (a : ByteArray) (l : Bs) : (a.toList == l) = (a.data.toList == l) := by rw [Lib.toList_data]

theorem majR_a {v m : Bs} {x : Rv} (h : m = []) (hi : x.plus = incF) : majR v m x = 0 := by unfold majR; rw [if_pos h, if_pos hi]
theorem majR_b {v m : Bs} {x : Rv} (h : m = []) (hi : ¬ x.plus = incF) : majR v m x = if x.n0 = [48] ∨ x.n0 = [49] then 1 else 2 := by unfold majR; rw [if_pos h, if_neg hi]
theorem majR_c {v m : Bs} {x : Rv} (h : m ≠ []) (ho : majOpen m) : majR v m x = 0 := by unfold majR; rw [if_neg h, if_pos ho]
theorem majR_d {v m : Bs} {x : Rv} (h : m ≠ []) (hi : x.plus = incF) : majR v m x = 0 := by
  unfold majR; rw [if_neg h]
  by_cases ho : majOpen m
  · rw [if_pos ho]
  · rw [if_neg ho, if_pos hi]
theorem majR_e {v m : Bs} {x : Rv} (h : m ≠ []) (ho : ¬ majOpen m) (hi : ¬ x.plus = incF) (hp : m = [46, 118, 49] ∧ 7 < v.length ∧ v.take 7 = v000) : majR v m x = 1 := by
  unfold majR; rw [if_neg h, if_neg ho, if_neg hi, if_pos hp]
theorem majR_f {v m : Bs} {x : Rv} (h : m ≠ []) (ho : ¬ majOpen m) (hi : ¬ x.plus = incF) (hp : ¬ (m = [46, 118, 49] ∧ 7 < v.length ∧ v.take 7 = v000)) : majR v m x = if x.n0 = m.drop 2 then 1 else 2 := by
  unfold majR; rw [if_neg h, if_neg ho, if_neg hi, if_neg hp]

set_option maxRecDepth 100000 in
set_option maxHeartbeats 8000000 in
theorem specmaj_any (s m : ByteArray) (w : World) (hs : s.size ≤ 4294967296) (hm : m.size ≤ 4294967296) :
    Calls Tryf.prog 8 #[.string s, .string m] w fun e w' => e = .returned (.int .i64 (majS s.data.toList m.data.toList)) ∧ Below w.heap.size w w' := by
  have RS := Lib.hid (fun wx => read_any s wx hs)
  go_enter Tryf.func8, Tryf.ntmps8
  go_wp2_with fail
  refine (RS.out _).mono ?_
  rintro e w1 ⟨hE, hb⟩
  unfold RvE at hE
  cases hP : readV s.data.toList with
  | none =>
    have R : Hid (majS s.data.toList m.data.toList = 0) := Lib.hid (by unfold majS; rw [hP])
    rw [hP] at hE
    obtain ⟨a, b, c, d, f, k, rfl⟩ := hE
    have HB := Lib.hid (below_tr hb (below_al (Below.refl _ _) (.cells #[.string a, .string b, .string c, .string d, .string f, .int .i64 k] 31)))
    clear hb hP
    unfold rvAgg
    go_wp2
    go_ret
    exact ⟨ret_int R.out.symm, HB.out⟩
  | some x =>
    rw [hP] at hE
    have hE' : e = .returned (.tuple #[rvAgg (tx x.n0) (tx x.n1) (tx x.n2) (tx x.pre) (tx x.plus) x.told, .bool true]) := hE
    clear hE
    subst hE'
    have RR : Hid (majS s.data.toList m.data.toList = majR s.data.toList m.data.toList x) := Lib.hid (by unfold majS; rw [hP])
    have HB := Lib.hid (below_tr hb (below_al (Below.refl _ _) (.cells #[.string (tx x.n0), .string (tx x.n1), .string (tx x.n2), .string (tx x.pre), .string (tx x.plus), .int .i64 (x.told : Int)] 31)))
    clear hb hP
    unfold rvAgg
    have I0 := lit_eq x.plus [43, 105, 110, 99, 111, 109, 112, 97, 116, 105, 98, 108, 101]
    have N0 := lit_eq x.n0 [48]
    have N1 := lit_eq x.n0 [49]
    have NX := tx_data x.n0
    rcases bool_or m.toList.isEmpty with he | he
    · have hl : m.data.toList = [] := by rw [Lib.toList_data] at he; exact List.isEmpty_iff.1 he
      by_cases hi : x.plus = incF
      · have R : Hid (majS s.data.toList m.data.toList = 0) := Lib.hid (by rw [RR.out, majR_a hl hi])
        have hi' : ((tx x.plus).toList == [43, 105, 110, 99, 111, 109, 112, 97, 116, 105, 98, 108, 101]) = true := by rw [I0]; simpa [incF] using hi
        clear hl hi I0 N0 N1 NX
        generalize tx x.plus = y4 at *
        generalize tx x.n0 = y0 at *
        go_wp2
        go_ret
        exact ⟨ret_int R.out.symm, HB.out⟩
      · have hi' : ((tx x.plus).toList == [43, 105, 110, 99, 111, 109, 112, 97, 116, 105, 98, 108, 101]) = false := by rw [I0]; simpa [incF] using hi
        have R0 := Lib.hid (RR.out.trans (majR_b hl hi))
        rcases bool_or ((tx x.n0).toList == [48]) with h0 | h0
        · have R : Hid (majS s.data.toList m.data.toList = 1) := Lib.hid (by rw [R0.out, if_pos (.inl (by rw [N0] at h0; simpa using h0))])
          clear hl hi I0 N0 N1 NX
          generalize tx x.plus = y4 at *
          generalize tx x.n0 = y0 at *
          go_wp2_with (go_at_call 12; refine (say_any _ _).mono ?_; rintro e w' ⟨rfl, rfl⟩)
          go_ret
          exact ⟨ret_int R.out.symm, HB.out⟩
        · rcases bool_or ((tx x.n0).toList == [49]) with h1 | h1
          · have R : Hid (majS s.data.toList m.data.toList = 1) := Lib.hid (by rw [R0.out, if_pos (.inr (by rw [N1] at h1; simpa using h1))])
            clear hl hi I0 N0 N1 NX
            generalize tx x.plus = y4 at *
            generalize tx x.n0 = y0 at *
            go_wp2_with (go_at_call 12; refine (say_any _ _).mono ?_; rintro e w' ⟨rfl, rfl⟩)
            go_ret
            exact ⟨ret_int R.out.symm, HB.out⟩
          · have R : Hid (majS s.data.toList m.data.toList = 2) := Lib.hid (by
              rw [R0.out, if_neg]
              rintro (h | h)
              · rw [N0] at h0; simp [h] at h0
              · rw [N1] at h1; simp [h] at h1)
            clear hl hi I0 N0 N1 NX
            generalize tx x.plus = y4 at *
            generalize tx x.n0 = y0 at *
            go_wp2_with (go_at_call 12; refine (say_any _ _).mono ?_; rintro e w' ⟨rfl, rfl⟩)
            go_ret
            exact ⟨ret_int R.out.symm, HB.out⟩
    · have hne : m.data.toList ≠ [] := by
        intro e; rw [Lib.toList_data, e] at he; cases he
      by_cases h3 : m.size < 3
      · have R : Hid (majS s.data.toList m.data.toList = 0) := Lib.hid (by rw [RR.out, majR_c hne (.inl (by rw [size_len]; exact h3))])
        clear hne I0 N0 N1 NX
        generalize tx x.plus = y4 at *
        generalize tx x.n0 = y0 at *
        go_wp2
        go_ret
        exact ⟨ret_int R.out.symm, HB.out⟩
      · have h3' : 3 ≤ m.size := by omega
        clear h3
        have g0 : m.data.toList[0]? = some m[0] := byte_at' m 0 (by omega)
        have g1 : m.data.toList[1]? = some m[1] := byte_at' m 1 (by omega)
        rcases bool_or ((m[1].toNat : Int) != 118) with ha | ha
        · have R : Hid (majS s.data.toList m.data.toList = 0) := Lib.hid (by
            rw [RR.out, majR_c hne (.inr (.inl ?_))]
            rw [g1]; intro e; injection e with e; rw [e] at ha; exact absurd ha (by decide))
          clear hne I0 N0 N1 NX g0 g1
          generalize tx x.plus = y4 at *
          generalize tx x.n0 = y0 at *
          go_wp2
          go_ret
          exact ⟨ret_int R.out.symm, HB.out⟩
        · have hx2 : (m.extract 2 m.size).size ≤ 4294967296 := by simp; omega
          have ed : (m.extract 2 m.size).data.toList = m.data.toList.drop 2 := extract_drop m 2
          have NB := fun wx => specnumber_any (m.extract 2 m.size) wx hx2
          rw [ed] at NB
          have b1 : m.data.toList[1]? = some 118 := by
            rw [g1]; congr 1
            have : (m[1].toNat : Int) = 118 := by simpa using ha
            exact UInt8.toNat_inj.1 (by show m[1].toNat = 118; omega)
          cases hn : numB (m.data.toList.drop 2) with
          | false =>
            have R : Hid (majS s.data.toList m.data.toList = 0) := Lib.hid (by rw [RR.out, majR_c hne (.inr (.inr (.inl hn)))])
            rw [hn] at NB
            have NB' := Lib.hid NB
            clear hne I0 N0 N1 NX g0 g1 ed NB b1 hn
            generalize tx x.plus = y4 at *
            generalize tx x.n0 = y0 at *
            go_wp2_with (go_at_call 13; refine (NB'.out _).mono ?_; rintro e w' ⟨rfl, rfl⟩)
            go_ret
            exact ⟨ret_int R.out.symm, HB.out⟩
          | true =>
            rw [hn] at NB
            have NB' := Lib.hid NB
            have L0 := lit_eq' m [47, 118, 48]
            have L1 := lit_eq' m [47, 118, 49]
            have L2 := lit_eq' m [46, 118, 49]
            have w47 : (((m[0].toNat : Int) == 47) = true ∧ ((m[0].toNat : Int) != 47) = false ∧ m.data.toList[0]? = some 47) ∨ (((m[0].toNat : Int) == 47) = false ∧ ((m[0].toNat : Int) != 47) = true ∧ m.data.toList[0]? ≠ some 47) := by
              rcases bool_or ((m[0].toNat : Int) == 47) with h | h
              · left
                have e : (m[0].toNat : Int) = 47 := by simpa using h
                exact ⟨h, by simpa using e, by rw [g0]; congr 1; exact UInt8.toNat_inj.1 (by show m[0].toNat = 47; omega)⟩
              · right
                have e : ¬ (m[0].toNat : Int) = 47 := by simpa using h
                exact ⟨h, by simpa using e, by rw [g0]; intro q; injection q with q; rw [q] at e; exact e rfl⟩
            have w46 : (((m[0].toNat : Int) != 46) = false ∧ m.data.toList[0]? = some 46) ∨ (((m[0].toNat : Int) != 46) = true ∧ m.data.toList[0]? ≠ some 46) := by
              rcases bool_or ((m[0].toNat : Int) != 46) with h | h
              · right
                have e : ¬ (m[0].toNat : Int) = 46 := by simpa using h
                exact ⟨h, by rw [g0]; intro q; injection q with q; rw [q] at e; exact e rfl⟩
              · left
                have e : (m[0].toNat : Int) = 46 := by simpa using h
                exact ⟨h, by rw [g0]; congr 1; exact UInt8.toNat_inj.1 (by show m[0].toNat = 46; omega)⟩
            have hl3 : ¬ m.data.toList.length < 3 := by rw [size_len]; omega
            -- the ways that are open
            have hway : (((m[0].toNat : Int) != 47) = true ∧ ((m[0].toNat : Int) != 46) = true ∧ majOpen m.data.toList) ∨
                (((m[0].toNat : Int) == 47) = true ∧ ((m[0].toNat : Int) != 47) = false ∧ (m.toList == [47, 118, 48]) = true ∧ majOpen m.data.toList) ∨
                (((m[0].toNat : Int) == 47) = true ∧ ((m[0].toNat : Int) != 47) = false ∧ (m.toList == [47, 118, 48]) = false ∧ (m.toList == [47, 118, 49]) = true ∧ majOpen m.data.toList) ∨
                (((m[0].toNat : Int) == 47) = true ∧ ((m[0].toNat : Int) != 47) = false ∧ (m.toList == [47, 118, 48]) = false ∧ (m.toList == [47, 118, 49]) = false ∧ ¬ majOpen m.data.toList) ∨
                (((m[0].toNat : Int) == 47) = false ∧ ((m[0].toNat : Int) != 47) = true ∧ ((m[0].toNat : Int) != 46) = false ∧ ¬ majOpen m.data.toList) := by
              rcases w47 with ⟨p1, p2, p3⟩ | ⟨p1, p2, p3⟩
              · rcases bool_or (m.toList == [47, 118, 48]) with q | q
                · exact .inr (.inl ⟨p1, p2, q, .inr (.inr (.inr (.inr ⟨p3, .inl (by rw [L0] at q; simpa using q)⟩)))⟩)
                · rcases bool_or (m.toList == [47, 118, 49]) with q' | q'
                  · exact .inr (.inr (.inl ⟨p1, p2, q, q', .inr (.inr (.inr (.inr ⟨p3, .inr (by rw [L1] at q'; simpa using q')⟩)))⟩))
                  · refine .inr (.inr (.inr (.inl ⟨p1, p2, q, q', ?_⟩)))
                    rintro (h | h | h | h | h)
                    · exact hl3 h
                    · exact h b1
                    · rw [hn] at h; cases h
                    · exact h.1 p3
                    · rcases h.2 with h | h
                      · rw [L0] at q; simp [h] at q
                      · rw [L1] at q'; simp [h] at q'
              · rcases w46 with ⟨r1, r2⟩ | ⟨r1, r2⟩
                · refine .inr (.inr (.inr (.inr ⟨p1, p2, r1, ?_⟩)))
                  rintro (h | h | h | h | h)
                  · exact hl3 h
                  · exact h b1
                  · rw [hn] at h; cases h
                  · exact h.2 r2
                  · exact p3 h.1
                · exact .inl ⟨p2, r1, .inr (.inr (.inr (.inl ⟨p3, r2⟩)))⟩
            clear g0 g1 ed NB b1 hn w47 w46 L0 L1 hl3 N0 N1
            rcases hway with ⟨p1, p2, ho⟩ | ⟨p1, p2, p3, ho⟩ | ⟨p1, p2, p3, p4, ho⟩ | hway
            · have R : Hid (majS s.data.toList m.data.toList = 0) := Lib.hid (by rw [RR.out, majR_c hne ho])
              clear hne ho I0 NX L2
              generalize tx x.plus = y4 at *
              generalize tx x.n0 = y0 at *
              go_wp2_with (go_at_call 13; refine (NB'.out _).mono ?_; rintro e w' ⟨rfl, rfl⟩)
              go_ret
              exact ⟨ret_int R.out.symm, HB.out⟩
            · have R : Hid (majS s.data.toList m.data.toList = 0) := Lib.hid (by rw [RR.out, majR_c hne ho])
              clear hne ho I0 NX L2
              generalize tx x.plus = y4 at *
              generalize tx x.n0 = y0 at *
              go_wp2_with (go_at_call 13; refine (NB'.out _).mono ?_; rintro e w' ⟨rfl, rfl⟩)
              go_ret
              exact ⟨ret_int R.out.symm, HB.out⟩
            · have R : Hid (majS s.data.toList m.data.toList = 0) := Lib.hid (by rw [RR.out, majR_c hne ho])
              clear hne ho I0 NX L2
              generalize tx x.plus = y4 at *
              generalize tx x.n0 = y0 at *
              go_wp2_with (go_at_call 13; refine (NB'.out _).mono ?_; rintro e w' ⟨rfl, rfl⟩)
              go_ret
              exact ⟨ret_int R.out.symm, HB.out⟩
            · have ho : ¬ majOpen m.data.toList := by
                rcases hway with ⟨_, _, _, _, h⟩ | ⟨_, _, _, h⟩ <;> exact h
              by_cases hi : x.plus = incF
              · have R : Hid (majS s.data.toList m.data.toList = 0) := Lib.hid (by rw [RR.out, majR_d hne hi])
                have hi' : ((tx x.plus).toList == [43, 105, 110, 99, 111, 109, 112, 97, 116, 105, 98, 108, 101]) = true := by rw [I0]; simpa [incF] using hi
                clear hne hi ho I0 NX L2
                generalize tx x.plus = y4 at *
                generalize tx x.n0 = y0 at *
                rcases hway with ⟨p1, p2, p3, p4, _⟩ | ⟨p1, p2, p3, _⟩
                all_goals
                  go_wp2_with (go_at_call 13; refine (NB'.out _).mono ?_; rintro e w' ⟨rfl, rfl⟩)
                  go_ret
                  exact ⟨ret_int R.out.symm, HB.out⟩
              · have hi' : ((tx x.plus).toList == [43, 105, 110, 99, 111, 109, 112, 97, 116, 105, 98, 108, 101]) = false := by rw [I0]; simpa [incF] using hi
                have P7 : ((m.toList == [46, 118, 49]) = true ∧ 7 < s.size ∧ ((s.extract 0 7).toList == [118, 48, 46, 48, 46, 48, 45]) = true ∧ majR s.data.toList m.data.toList x = 1) ∨
                    (((m.toList == [46, 118, 49]) = false ∨ ((m.toList == [46, 118, 49]) = true ∧ s.size ≤ 7) ∨ ((m.toList == [46, 118, 49]) = true ∧ 7 < s.size ∧ ((s.extract 0 7).toList == [118, 48, 46, 48, 46, 48, 45]) = false)) ∧
                      majR s.data.toList m.data.toList x = if x.n0 = m.data.toList.drop 2 then 1 else 2) := by
                  rcases bool_or (m.toList == [46, 118, 49]) with q | q
                  · have q' : m.data.toList = [46, 118, 49] := by rw [L2] at q; simpa using q
                    by_cases h7 : 7 < s.size
                    · rcases bool_or ((s.extract 0 7).toList == [118, 48, 46, 48, 46, 48, 45]) with z | z
                      · have z' : s.data.toList.take 7 = v000 := by rw [lit_eq', extract_take] at z; simpa [v000] using z
                        exact .inl ⟨q, h7, z, majR_e hne ho hi ⟨q', by rw [size_len]; exact h7, z'⟩⟩
                      · refine .inr ⟨.inr (.inr ⟨q, h7, z⟩), majR_f hne ho hi ?_⟩
                        rintro ⟨_, _, h⟩
                        rw [lit_eq', extract_take, h] at z
                        exact absurd z (by decide)
                    · refine .inr ⟨.inr (.inl ⟨q, by omega⟩), majR_f hne ho hi ?_⟩
                      rintro ⟨_, h, _⟩
                      rw [size_len] at h; exact h7 h
                  · refine .inr ⟨.inl q, majR_f hne ho hi ?_⟩
                    rintro ⟨h, _⟩
                    rw [L2, h] at q; exact absurd q (by decide)
                rcases P7 with ⟨k1, k2, k3, k4⟩ | ⟨kk, k4⟩
                · have R : Hid (majS s.data.toList m.data.toList = 1) := Lib.hid (by rw [RR.out, k4])
                  clear hne hi ho I0 NX L2 k4
                  generalize tx x.plus = y4 at *
                  generalize tx x.n0 = y0 at *
                  rcases hway with ⟨p1, p2, p3, p4, _⟩ | ⟨p1, p2, p3, _⟩
                  all_goals
                    go_wp2_with (go_at_call 13; refine (NB'.out _).mono ?_; rintro e w' ⟨rfl, rfl⟩)
                    go_ret
                    exact ⟨ret_int R.out.symm, HB.out⟩
                · have ec : ((tx x.n0).toList == (m.extract 2 m.size).toList) = decide (x.n0 = m.data.toList.drop 2) := by
                    rw [Lib.toList_data, Lib.toList_data, tx_data, extract_drop, Bool.eq_iff_iff]; simp
                  have R : Hid (majS s.data.toList m.data.toList = if ((tx x.n0).toList == (m.extract 2 m.size).toList) = true then 1 else 2) := Lib.hid (by
                    rw [RR.out, k4, ec]
                    by_cases h : x.n0 = m.data.toList.drop 2
                    · rw [if_pos h, if_pos (decide_eq_true h)]
                    · rw [if_neg h, if_neg (by rw [decide_eq_false h]; decide)])
                  clear hne hi ho I0 NX L2 k4 ec
                  generalize tx x.plus = y4 at *
                  generalize tx x.n0 = y0 at *
                  rcases bool_or (y0.toList == (m.extract 2 m.size).toList) with hz | hz
                  all_goals
                    rcases hway with ⟨p1, p2, p3, p4, _⟩ | ⟨p1, p2, p3, _⟩
                    all_goals
                      rcases kk with k1 | ⟨k1, k2⟩ | ⟨k1, k2, k3⟩
                      all_goals
                        go_wp2_with (go_at_call 13; refine (NB'.out _).mono ?_; rintro e w' ⟨rfl, rfl⟩)
                        go_quiet ((go_at_call 12; exact Calls.quiet_of_same (say_q _ _)))
                        go_wp2
                        go_ret
                        exact ⟨ret_int (by rw [R.out, hz]; rfl), below_dn HB.out _⟩
theorem told_any (b : Bool) (n : Int) (w : World) (h : n = 0 ∨ b = decide (n = 1)) :
    Calls Tryf.prog 7 #[.bool b, .int .i64 n] w fun e w' => e = .returned (.bool true) ∧ w = w' := by
  by_cases h0 : n = 0
  · subst h0
    clear h
    go_enter Tryf.func7, Tryf.ntmps7
    go_wp2
    go_ret
    exact ⟨rfl, rfl⟩
  · have e0 : (n == 0) = false := by simpa using h0
    by_cases h1 : n = 1
    · have hb : b = true := by rcases h with h | h; exact absurd h h0; rw [h, decide_eq_true h1]
      subst hb; subst h1
      clear h h0
      go_enter Tryf.func7, Tryf.ntmps7
      go_wp2
      go_ret
      exact ⟨rfl, rfl⟩
    · have hb : b = false := by rcases h with h | h; exact absurd h h0; rw [h, decide_eq_false h1]
      have e1 : (n == 1) = false := by simpa using h1
      subst hb
      clear h h0 h1
      go_enter Tryf.func7, Tryf.ntmps7
      go_wp2
      go_ret
      exact ⟨rfl, rfl⟩
end Go.Proofs.YtdinaphcglmhoaaFmt
