/-
  The walks of module.CheckPathMajor, module.MatchPathMajor and of impl's two, for every function that stands in fmt's place.
-/
import Derived.Test.YtdinaphcglmhoaaFmtMajP
import Derived.Test.YtdinaphcglmhoaaFmtFmtF
namespace Go.Proofs.YtdinaphcglmhoaaFmt
open Go.RowKit Go.Extern.Stop Go.Stop Go.Extern
set_option linter.unusedVariables false
set_option linter.unusedSimpArgs false

/-- nil where b, else some error -/
def NilIf (b : Bool) (w : World) (e : Ending) (w' : World) : Prop := (if b = true then e = .returned .nilIface else ∃ (t : TypeId) (v : Value), e = .returned (.iface t v)) ∧ Below w.heap.size w w'
theorem NilIf.yes {b : Bool} {w w' : World} (h : b = true) (hb : Below w.heap.size w w') : NilIf b w (.returned .nilIface) w' := ⟨by rw [if_pos h], hb⟩
theorem NilIf.no {b : Bool} {w w' : World} {t : TypeId} {v : Value} (h : b = false) (hb : Below w.heap.size w w') : NilIf b w (.returned (.iface t v)) w' := ⟨by rw [if_neg (by rw [h]; decide)]; exact ⟨t, v, rfl⟩, hb⟩

theorem eq_lit (a : ByteArray) (l : Bs) : (a.toList == l) = (a.data.toList == l) := by rw [Lib.toList_data]
theorem nil_lit (a : ByteArray) : a.toList.isEmpty = a.data.toList.isEmpty := by rw [Lib.toList_data]

set_option maxHeartbeats 1000000 in
theorem trimSuffix_any (s p : ByteArray) (w : World) (hs : s.size ≤ maxLen) (hp : p.size ≤ maxLen) (hy : sufB p.data.toList s.data.toList = true) :
    Calls Tryf.prog 16 #[.string s, .string p] w fun e w' => e = .returned (.string (s.extract 0 (s.size - p.size))) ∧ w = w' := by
  have hsz : p.size ≤ s.size := by
    unfold sufB at hy
    rw [Bool.and_eq_true, decide_eq_true_eq, size_len, size_len] at hy
    exact hy.1
  have E : ((s.extract (s.size - p.size) s.size).toList == p.toList) = true := by
    unfold sufB at hy
    rw [Bool.and_eq_true, size_len, size_len] at hy
    rw [Lib.toList_data, Lib.toList_data, extract_drop]; exact hy.2
  unfold maxLen at hs
  clear hy
  go_enter Tryf.func16, Tryf.ntmps16
  go_wp2
  go_ret
  exact ⟨rfl, rfl⟩

theorem errorf_at (F : Interp) (a b : ByteArray) (w w2 : World) (hF : F.answers w.tape) (hb : Below w.heap.size w w2) :
    Calls Tryf.prog 19 #[.string ⟨#[115, 104, 111, 117, 108, 100, 32, 98, 101, 32, 37, 115, 44, 32, 110, 111, 116, 32, 37, 115]⟩, .slice (some ⟨w2.heap.size, 0, none⟩) 2 2] (w2.alloc (.cells #[.iface 9 (.string a), .iface 9 (.string b)] 20)) (SomeErr w) :=
  (errorf_any F a b w2.heap.size _ (by rw [show (w2.alloc (.cells #[.iface 9 (.string a), .iface 9 (.string b)] 20)).tape = w2.tape from rfl, hb.tape]; exact hF) (by rw [World.cell?_alloc_at (hn := rfl)]; rfl) (by rw [World.cell?_alloc_at (hn := rfl)]; rfl)).mono fun _ _ ⟨h1, h2⟩ => ⟨h1, below_tr (below_al hb _) h2⟩

theorem cr_yes {v pm : Bs} (h1 : preB v000 v = true) (h2 : (pm == [46, 118, 49]) = true) : cpmRest v pm = true := by
  unfold cpmRest; rw [h1, h2]; rfl
theorem cr_e {v pm : Bs} (h1 : (preB v000 v && (pm == [46, 118, 49])) = false) (h : pm = []) : cpmRest v pm = (majV v == [118, 48] || (majV v == [118, 49] || bldOf v == incF)) := by
  unfold cpmRest; rw [h1, if_pos h, Bool.false_or]
theorem cr_s {v pm r : Bs} {c : UInt8} (h1 : (preB v000 v && (pm == [46, 118, 49])) = false) (h : pm = c :: r) : cpmRest v pm = ((c == 47 || c == 46) && (majV v == r)) := by
  unfold cpmRest; rw [h1, if_neg (by rw [h]; simp), Bool.false_or, h]; simp

set_option maxHeartbeats 8000000 in
theorem cpm_any (F : Interp) (v m : ByteArray) (w : World) (hF : F.answers w.tape) (hv : v.size ≤ 4294967296) (hm : m.size ≤ 4294967296) :
    Calls Tryf.prog 9 #[.string v, .string m] w (NilIf (cpmB v.data.toList m.data.toList) w) := by
  have hmm : m.size ≤ maxLen := by unfold maxLen; omega
  have hvm : v.size ≤ maxLen := by unfold maxLen; omega
  have HF := Lib.hid hF
  have HB0 := Lib.hid (Below.refl w.heap.size w)
  have P1 := fun wx => hasPrefix_any m ⟨#[46, 118]⟩ wx hmm (by decide)
  have P2 := fun wx => hasSuffix_any m ⟨#[45, 117, 110, 115, 116, 97, 98, 108, 101]⟩ wx hmm (by decide)
  have P3 := fun wx => hasPrefix_any v ⟨#[118, 48, 46, 48, 46, 48, 45]⟩ wx hvm (by decide)
  have MJ := Lib.hid (fun wx => major_any v wx hv)
  have BD := Lib.hid (fun wx => build_any v wx hv)
  obtain ⟨t, ht⟩ : ∃ t, sufB unstL m.data.toList = t := ⟨_, rfl⟩
  obtain ⟨u, hu⟩ : ∃ u, preB [46, 118] m.data.toList = u := ⟨_, rfl⟩
  obtain ⟨z, hz⟩ : ∃ z, preB v000 v.data.toList = z := ⟨_, rfl⟩
  have Q1 : Hid (∀ wx, Calls Tryf.prog 14 #[.string m, .string ⟨#[46, 118]⟩] wx fun e w' => e = .returned (.bool u) ∧ wx = w') := Lib.hid (by rw [← hu]; exact P1)
  have Q2 : Hid (∀ wx, Calls Tryf.prog 15 #[.string m, .string ⟨#[45, 117, 110, 115, 116, 97, 98, 108, 101]⟩] wx fun e w' => e = .returned (.bool t) ∧ wx = w') := Lib.hid (by rw [← ht]; exact P2)
  have Q3 : Hid (∀ wx, Calls Tryf.prog 14 #[.string v, .string ⟨#[118, 48, 46, 48, 46, 48, 45]⟩] wx fun e w' => e = .returned (.bool z) ∧ wx = w') := Lib.hid (by rw [← hz]; exact P3)
  have HZ := Lib.hid hz
  clear P1 P2 P3 hz
  obtain ⟨cb, hcb⟩ : ∃ cb, cpmB v.data.toList m.data.toList = cb := ⟨_, rfl⟩
  rw [hcb]
  unfold cpmB at hcb
  obtain ⟨pm, TT, hpm, way⟩ : ∃ pm : ByteArray, ∃ TT : Hid (cb = cpmRest v.data.toList pm.data.toList), pm.size ≤ 4294967296 ∧ ((u = true ∧ t = true ∧ Hid (∀ wx, Calls Tryf.prog 16 #[.string m, .string ⟨#[45, 117, 110, 115, 116, 97, 98, 108, 101]⟩] wx fun e w' => e = .returned (.string pm) ∧ wx = w')) ∨ (u = true ∧ t = false ∧ pm = m) ∨ (u = false ∧ pm = m)) := by
    cases u
    · exact ⟨m, Lib.hid (by rw [← hcb]; unfold trimM; rw [if_neg (by rw [hu]; simp)]), hm, .inr (.inr ⟨rfl, rfl⟩)⟩
    · cases t
      · exact ⟨m, Lib.hid (by rw [← hcb]; unfold trimM; rw [if_neg (by rw [ht]; simp)]), hm, .inr (.inl ⟨rfl, rfl, rfl⟩)⟩
      · refine ⟨m.extract 0 (m.size - 9), Lib.hid (by rw [← hcb]; unfold trimM; rw [if_pos ⟨hu, ht⟩, extract_take, size_len]), by simp; omega, .inl ⟨rfl, rfl, Lib.hid (fun wx => ?_)⟩⟩
        exact trimSuffix_any m ⟨#[45, 117, 110, 115, 116, 97, 98, 108, 101]⟩ wx hmm (by decide) ht
  clear ht hu hF hcb
  have hpm' : pm.size ≤ maxLen := by unfold maxLen; omega
  rcases way with ⟨rfl, rfl, TS⟩ | ⟨rfl, rfl, rfl⟩ | ⟨rfl, rfl⟩
  · go_enter Tryf.func9, Tryf.ntmps9
    go_wp2_with fail
    refine (Q1.out _).mono ?_
    rintro e w' ⟨rfl, rfl⟩
    go_wp2_with fail
    refine (Q2.out _).mono ?_
    rintro e w' ⟨rfl, rfl⟩
    go_wp2_with fail
    refine (TS.out _).mono ?_
    rintro e w' ⟨rfl, rfl⟩
    go_wp2_with fail
    refine (Q3.out _).mono ?_
    rintro e w' ⟨rfl, rfl⟩
    rcases bool_or (pm.toList == [46, 118, 49]) with hpz | hpz
    · have HPZ := Lib.hid hpz
      cases z
      · have HZZ : Hid ((preB v000 v.data.toList && (pm.data.toList == [46, 118, 49])) = false) := Lib.hid (by rw [HZ.out, Bool.false_and])
        go_wp2_with fail
        refine (MJ.out _).mono ?_
        rintro e w1 ⟨rfl, hb⟩
        have HB1 := Lib.hid hb
        clear hb
        clear hpz
        rcases bool_or pm.toList.isEmpty with he | he
        · have hl : pm.data.toList = [] := by rw [nil_lit] at he; exact List.isEmpty_iff.1 he
          have HC : Hid (cb = ((tx (majV v.data.toList)).toList == [118, 48] || ((tx (majV v.data.toList)).toList == [118, 49] || (tx (bldOf v.data.toList)).toList == [43, 105, 110, 99, 111, 109, 112, 97, 116, 105, 98, 108, 101]))) := Lib.hid (by
            rw [TT.out, cr_e HZZ.out hl, eq_lit, eq_lit, eq_lit, tx_data, tx_data]; rfl)
          clear hl
          rcases bool_or ((tx (majV v.data.toList)).toList == [118, 48]) with h0 | h0
          · have R : Hid (cb = true) := Lib.hid (by rw [HC.out, h0]; rfl)
            generalize tx (majV v.data.toList) = mj at *
            go_wp2
            go_ret
            exact NilIf.yes R.out HB1.out
          · rcases bool_or ((tx (majV v.data.toList)).toList == [118, 49]) with h1 | h1
            · have R : Hid (cb = true) := Lib.hid (by rw [HC.out, h1]; simp)
              generalize tx (majV v.data.toList) = mj at *
              go_wp2
              go_ret
              exact NilIf.yes R.out HB1.out
            · rcases bool_or ((tx (bldOf v.data.toList)).toList == [43, 105, 110, 99, 111, 109, 112, 97, 116, 105, 98, 108, 101]) with h2 | h2
              · have R : Hid (cb = true) := Lib.hid (by rw [HC.out, h2]; simp)
                have BD' := BD.out
                generalize tx (majV v.data.toList) = mj at *
                generalize tx (bldOf v.data.toList) = bl at *
                have BD2 := Lib.hid BD'
                clear BD'
                go_wp2_with fail
                refine (BD2.out _).mono ?_
                rintro e w2 ⟨rfl, hb⟩
                have HB2 := Lib.hid (below_tr HB1.out hb)
                clear hb
                go_wp2
                go_ret
                exact NilIf.yes R.out HB2.out
              · have R : Hid (cb = false) := Lib.hid (by rw [HC.out, h0, h1, h2]; rfl)
                have BD' := BD.out
                have MJ' := MJ.out
                generalize tx (majV v.data.toList) = mj at *
                generalize tx (bldOf v.data.toList) = bl at *
                have BD2 := Lib.hid BD'
                have MJ2 := Lib.hid MJ'
                clear BD' MJ'
                go_wp2_with fail
                refine (BD2.out _).mono ?_
                rintro e w2 ⟨rfl, hb⟩
                have HB2 := Lib.hid (below_tr HB1.out hb)
                clear hb
                go_wp2_with fail
                refine (MJ2.out _).mono ?_
                rintro e w3 ⟨rfl, hb⟩
                have HB3 := Lib.hid (below_tr HB2.out hb)
                clear hb
                go_wp2_with fail
                refine (errorf_at F _ _ w w3 HF.out HB3.out).mono ?_
                rintro e w4 ⟨⟨t', x', rfl⟩, hb⟩
                have HB4 := Lib.hid hb
                clear hb
                go_wp2
                go_ret
                exact NilIf.no R.out (below_al HB4.out _)
        · obtain ⟨c, r, hl⟩ : ∃ c r, pm.data.toList = c :: r := by
            rw [nil_lit] at he
            cases e : pm.data.toList with
            | nil => rw [e] at he; cases he
            | cons c r => exact ⟨c, r, rfl⟩
          obtain ⟨hp0, _, hv0, hx0⟩ := str_cons hl
          have HC : Hid (cb = ((c == 47 || c == 46) && ((tx (majV v.data.toList)).toList == (pm.extract 1 pm.size).toList))) := Lib.hid (by
            rw [TT.out, cr_s HZZ.out hl, Lib.toList_data, Lib.toList_data, tx_data, hx0])
          clear hl hx0
          have MJ' := MJ.out
          generalize tx (majV v.data.toList) = mj at *
          have MJ2 := Lib.hid MJ'
          clear MJ'
          by_cases hc47 : c = 47
          · have e47 : ((pm[0].toNat : Int) == 47) = true := by rw [hv0 hp0, hc47]; rfl
            clear hv0
            rcases bool_or (mj.toList == (pm.extract 1 pm.size).toList) with h0 | h0
            · have R : Hid (cb = true) := Lib.hid (by rw [HC.out, h0, hc47]; rfl)
              clear hc47
              go_wp2
              go_ret
              exact NilIf.yes R.out HB1.out
            · have R : Hid (cb = false) := Lib.hid (by rw [HC.out, h0, Bool.and_false])
              clear hc47
              go_wp2_with fail
              refine (MJ2.out _).mono ?_
              rintro e w3 ⟨rfl, hb⟩
              have HB3 := Lib.hid (below_tr HB1.out hb)
              clear hb
              go_wp2_with fail
              refine (errorf_at F _ _ w w3 HF.out HB3.out).mono ?_
              rintro e w4 ⟨⟨t', x', rfl⟩, hb⟩
              have HB4 := Lib.hid hb
              clear hb
              go_wp2
              go_ret
              exact NilIf.no R.out (below_al HB4.out _)
          · by_cases hc46 : c = 46
            · have e47 : ((pm[0].toNat : Int) == 47) = false := by rw [hv0 hp0, hc46]; rfl
              have e46 : ((pm[0].toNat : Int) == 46) = true := by rw [hv0 hp0, hc46]; rfl
              clear hv0
              rcases bool_or (mj.toList == (pm.extract 1 pm.size).toList) with h0 | h0
              · have R : Hid (cb = true) := Lib.hid (by rw [HC.out, h0, hc46]; rfl)
                clear hc46 hc47
                go_wp2
                go_ret
                exact NilIf.yes R.out HB1.out
              · have R : Hid (cb = false) := Lib.hid (by rw [HC.out, h0, Bool.and_false])
                clear hc46 hc47
                go_wp2_with fail
                refine (MJ2.out _).mono ?_
                rintro e w3 ⟨rfl, hb⟩
                have HB3 := Lib.hid (below_tr HB1.out hb)
                clear hb
                go_wp2_with fail
                refine (errorf_at F _ _ w w3 HF.out HB3.out).mono ?_
                rintro e w4 ⟨⟨t', x', rfl⟩, hb⟩
                have HB4 := Lib.hid hb
                clear hb
                go_wp2
                go_ret
                exact NilIf.no R.out (below_al HB4.out _)
            · have e47 : ((pm[0].toNat : Int) == 47) = false := by
                rw [hv0 hp0, beq_eq_false_iff_ne]; intro e; exact hc47 (UInt8.toNat_inj.1 (by show c.toNat = 47; omega))
              have e46 : ((pm[0].toNat : Int) == 46) = false := by
                rw [hv0 hp0, beq_eq_false_iff_ne]; intro e; exact hc46 (UInt8.toNat_inj.1 (by show c.toNat = 46; omega))
              have R : Hid (cb = false) := Lib.hid (by rw [HC.out]; simp [hc47, hc46])
              clear hv0 hc46 hc47
              go_wp2_with fail
              refine (MJ2.out _).mono ?_
              rintro e w3 ⟨rfl, hb⟩
              have HB3 := Lib.hid (below_tr HB1.out hb)
              clear hb
              go_wp2_with fail
              refine (errorf_at F _ _ w w3 HF.out HB3.out).mono ?_
              rintro e w4 ⟨⟨t', x', rfl⟩, hb⟩
              have HB4 := Lib.hid hb
              clear hb
              go_wp2
              go_ret
              exact NilIf.no R.out (below_al HB4.out _)
      · go_wp2
        go_ret
        exact NilIf.yes (by rw [TT.out]; exact cr_yes HZ.out (by rw [← eq_lit]; exact HPZ.out)) HB0.out
    · have HZZ : Hid ((preB v000 v.data.toList && (pm.data.toList == [46, 118, 49])) = false) := Lib.hid (by rw [← eq_lit, hpz, Bool.and_false])
      cases z
      all_goals
        go_wp2_with fail
        refine (MJ.out _).mono ?_
        rintro e w1 ⟨rfl, hb⟩
        have HB1 := Lib.hid hb
        clear hb
        rcases bool_or pm.toList.isEmpty with he | he
        · have hl : pm.data.toList = [] := by rw [nil_lit] at he; exact List.isEmpty_iff.1 he
          have HC : Hid (cb = ((tx (majV v.data.toList)).toList == [118, 48] || ((tx (majV v.data.toList)).toList == [118, 49] || (tx (bldOf v.data.toList)).toList == [43, 105, 110, 99, 111, 109, 112, 97, 116, 105, 98, 108, 101]))) := Lib.hid (by
            rw [TT.out, cr_e HZZ.out hl, eq_lit, eq_lit, eq_lit, tx_data, tx_data]; rfl)
          clear hl
          rcases bool_or ((tx (majV v.data.toList)).toList == [118, 48]) with h0 | h0
          · have R : Hid (cb = true) := Lib.hid (by rw [HC.out, h0]; rfl)
            generalize tx (majV v.data.toList) = mj at *
            go_wp2
            go_ret
            exact NilIf.yes R.out HB1.out
          · rcases bool_or ((tx (majV v.data.toList)).toList == [118, 49]) with h1 | h1
            · have R : Hid (cb = true) := Lib.hid (by rw [HC.out, h1]; simp)
              generalize tx (majV v.data.toList) = mj at *
              go_wp2
              go_ret
              exact NilIf.yes R.out HB1.out
            · rcases bool_or ((tx (bldOf v.data.toList)).toList == [43, 105, 110, 99, 111, 109, 112, 97, 116, 105, 98, 108, 101]) with h2 | h2
              · have R : Hid (cb = true) := Lib.hid (by rw [HC.out, h2]; simp)
                have BD' := BD.out
                generalize tx (majV v.data.toList) = mj at *
                generalize tx (bldOf v.data.toList) = bl at *
                have BD2 := Lib.hid BD'
                clear BD'
                go_wp2_with fail
                refine (BD2.out _).mono ?_
                rintro e w2 ⟨rfl, hb⟩
                have HB2 := Lib.hid (below_tr HB1.out hb)
                clear hb
                go_wp2
                go_ret
                exact NilIf.yes R.out HB2.out
              · have R : Hid (cb = false) := Lib.hid (by rw [HC.out, h0, h1, h2]; rfl)
                have BD' := BD.out
                have MJ' := MJ.out
                generalize tx (majV v.data.toList) = mj at *
                generalize tx (bldOf v.data.toList) = bl at *
                have BD2 := Lib.hid BD'
                have MJ2 := Lib.hid MJ'
                clear BD' MJ'
                go_wp2_with fail
                refine (BD2.out _).mono ?_
                rintro e w2 ⟨rfl, hb⟩
                have HB2 := Lib.hid (below_tr HB1.out hb)
                clear hb
                go_wp2_with fail
                refine (MJ2.out _).mono ?_
                rintro e w3 ⟨rfl, hb⟩
                have HB3 := Lib.hid (below_tr HB2.out hb)
                clear hb
                go_wp2_with fail
                refine (errorf_at F _ _ w w3 HF.out HB3.out).mono ?_
                rintro e w4 ⟨⟨t', x', rfl⟩, hb⟩
                have HB4 := Lib.hid hb
                clear hb
                go_wp2
                go_ret
                exact NilIf.no R.out (below_al HB4.out _)
        · obtain ⟨c, r, hl⟩ : ∃ c r, pm.data.toList = c :: r := by
            rw [nil_lit] at he
            cases e : pm.data.toList with
            | nil => rw [e] at he; cases he
            | cons c r => exact ⟨c, r, rfl⟩
          obtain ⟨hp0, _, hv0, hx0⟩ := str_cons hl
          have HC : Hid (cb = ((c == 47 || c == 46) && ((tx (majV v.data.toList)).toList == (pm.extract 1 pm.size).toList))) := Lib.hid (by
            rw [TT.out, cr_s HZZ.out hl, Lib.toList_data, Lib.toList_data, tx_data, hx0])
          clear hl hx0
          have MJ' := MJ.out
          generalize tx (majV v.data.toList) = mj at *
          have MJ2 := Lib.hid MJ'
          clear MJ'
          by_cases hc47 : c = 47
          · have e47 : ((pm[0].toNat : Int) == 47) = true := by rw [hv0 hp0, hc47]; rfl
            clear hv0
            rcases bool_or (mj.toList == (pm.extract 1 pm.size).toList) with h0 | h0
            · have R : Hid (cb = true) := Lib.hid (by rw [HC.out, h0, hc47]; rfl)
              clear hc47
              go_wp2
              go_ret
              exact NilIf.yes R.out HB1.out
            · have R : Hid (cb = false) := Lib.hid (by rw [HC.out, h0, Bool.and_false])
              clear hc47
              go_wp2_with fail
              refine (MJ2.out _).mono ?_
              rintro e w3 ⟨rfl, hb⟩
              have HB3 := Lib.hid (below_tr HB1.out hb)
              clear hb
              go_wp2_with fail
              refine (errorf_at F _ _ w w3 HF.out HB3.out).mono ?_
              rintro e w4 ⟨⟨t', x', rfl⟩, hb⟩
              have HB4 := Lib.hid hb
              clear hb
              go_wp2
              go_ret
              exact NilIf.no R.out (below_al HB4.out _)
          · by_cases hc46 : c = 46
            · have e47 : ((pm[0].toNat : Int) == 47) = false := by rw [hv0 hp0, hc46]; rfl
              have e46 : ((pm[0].toNat : Int) == 46) = true := by rw [hv0 hp0, hc46]; rfl
              clear hv0
              rcases bool_or (mj.toList == (pm.extract 1 pm.size).toList) with h0 | h0
              · have R : Hid (cb = true) := Lib.hid (by rw [HC.out, h0, hc46]; rfl)
                clear hc46 hc47
                go_wp2
                go_ret
                exact NilIf.yes R.out HB1.out
              · have R : Hid (cb = false) := Lib.hid (by rw [HC.out, h0, Bool.and_false])
                clear hc46 hc47
                go_wp2_with fail
                refine (MJ2.out _).mono ?_
                rintro e w3 ⟨rfl, hb⟩
                have HB3 := Lib.hid (below_tr HB1.out hb)
                clear hb
                go_wp2_with fail
                refine (errorf_at F _ _ w w3 HF.out HB3.out).mono ?_
                rintro e w4 ⟨⟨t', x', rfl⟩, hb⟩
                have HB4 := Lib.hid hb
                clear hb
                go_wp2
                go_ret
                exact NilIf.no R.out (below_al HB4.out _)
            · have e47 : ((pm[0].toNat : Int) == 47) = false := by
                rw [hv0 hp0, beq_eq_false_iff_ne]; intro e; exact hc47 (UInt8.toNat_inj.1 (by show c.toNat = 47; omega))
              have e46 : ((pm[0].toNat : Int) == 46) = false := by
                rw [hv0 hp0, beq_eq_false_iff_ne]; intro e; exact hc46 (UInt8.toNat_inj.1 (by show c.toNat = 46; omega))
              have R : Hid (cb = false) := Lib.hid (by rw [HC.out]; simp [hc47, hc46])
              clear hv0 hc46 hc47
              go_wp2_with fail
              refine (MJ2.out _).mono ?_
              rintro e w3 ⟨rfl, hb⟩
              have HB3 := Lib.hid (below_tr HB1.out hb)
              clear hb
              go_wp2_with fail
              refine (errorf_at F _ _ w w3 HF.out HB3.out).mono ?_
              rintro e w4 ⟨⟨t', x', rfl⟩, hb⟩
              have HB4 := Lib.hid hb
              clear hb
              go_wp2
              go_ret
              exact NilIf.no R.out (below_al HB4.out _)
  · go_enter Tryf.func9, Tryf.ntmps9
    go_wp2_with fail
    refine (Q1.out _).mono ?_
    rintro e w' ⟨rfl, rfl⟩
    go_wp2_with fail
    refine (Q2.out _).mono ?_
    rintro e w' ⟨rfl, rfl⟩
    go_wp2_with fail
    refine (Q3.out _).mono ?_
    rintro e w' ⟨rfl, rfl⟩
    rcases bool_or (pm.toList == [46, 118, 49]) with hpz | hpz
    · have HPZ := Lib.hid hpz
      cases z
      · have HZZ : Hid ((preB v000 v.data.toList && (pm.data.toList == [46, 118, 49])) = false) := Lib.hid (by rw [HZ.out, Bool.false_and])
        go_wp2_with fail
        refine (MJ.out _).mono ?_
        rintro e w1 ⟨rfl, hb⟩
        have HB1 := Lib.hid hb
        clear hb
        clear hpz
        rcases bool_or pm.toList.isEmpty with he | he
        · have hl : pm.data.toList = [] := by rw [nil_lit] at he; exact List.isEmpty_iff.1 he
          have HC : Hid (cb = ((tx (majV v.data.toList)).toList == [118, 48] || ((tx (majV v.data.toList)).toList == [118, 49] || (tx (bldOf v.data.toList)).toList == [43, 105, 110, 99, 111, 109, 112, 97, 116, 105, 98, 108, 101]))) := Lib.hid (by
            rw [TT.out, cr_e HZZ.out hl, eq_lit, eq_lit, eq_lit, tx_data, tx_data]; rfl)
          clear hl
          rcases bool_or ((tx (majV v.data.toList)).toList == [118, 48]) with h0 | h0
          · have R : Hid (cb = true) := Lib.hid (by rw [HC.out, h0]; rfl)
            generalize tx (majV v.data.toList) = mj at *
            go_wp2
            go_ret
            exact NilIf.yes R.out HB1.out
          · rcases bool_or ((tx (majV v.data.toList)).toList == [118, 49]) with h1 | h1
            · have R : Hid (cb = true) := Lib.hid (by rw [HC.out, h1]; simp)
              generalize tx (majV v.data.toList) = mj at *
              go_wp2
              go_ret
              exact NilIf.yes R.out HB1.out
            · rcases bool_or ((tx (bldOf v.data.toList)).toList == [43, 105, 110, 99, 111, 109, 112, 97, 116, 105, 98, 108, 101]) with h2 | h2
              · have R : Hid (cb = true) := Lib.hid (by rw [HC.out, h2]; simp)
                have BD' := BD.out
                generalize tx (majV v.data.toList) = mj at *
                generalize tx (bldOf v.data.toList) = bl at *
                have BD2 := Lib.hid BD'
                clear BD'
                go_wp2_with fail
                refine (BD2.out _).mono ?_
                rintro e w2 ⟨rfl, hb⟩
                have HB2 := Lib.hid (below_tr HB1.out hb)
                clear hb
                go_wp2
                go_ret
                exact NilIf.yes R.out HB2.out
              · have R : Hid (cb = false) := Lib.hid (by rw [HC.out, h0, h1, h2]; rfl)
                have BD' := BD.out
                have MJ' := MJ.out
                generalize tx (majV v.data.toList) = mj at *
                generalize tx (bldOf v.data.toList) = bl at *
                have BD2 := Lib.hid BD'
                have MJ2 := Lib.hid MJ'
                clear BD' MJ'
                go_wp2_with fail
                refine (BD2.out _).mono ?_
                rintro e w2 ⟨rfl, hb⟩
                have HB2 := Lib.hid (below_tr HB1.out hb)
                clear hb
                go_wp2_with fail
                refine (MJ2.out _).mono ?_
                rintro e w3 ⟨rfl, hb⟩
                have HB3 := Lib.hid (below_tr HB2.out hb)
                clear hb
                go_wp2_with fail
                refine (errorf_at F _ _ w w3 HF.out HB3.out).mono ?_
                rintro e w4 ⟨⟨t', x', rfl⟩, hb⟩
                have HB4 := Lib.hid hb
                clear hb
                go_wp2
                go_ret
                exact NilIf.no R.out (below_al HB4.out _)
        · obtain ⟨c, r, hl⟩ : ∃ c r, pm.data.toList = c :: r := by
            rw [nil_lit] at he
            cases e : pm.data.toList with
            | nil => rw [e] at he; cases he
            | cons c r => exact ⟨c, r, rfl⟩
          obtain ⟨hp0, _, hv0, hx0⟩ := str_cons hl
          have HC : Hid (cb = ((c == 47 || c == 46) && ((tx (majV v.data.toList)).toList == (pm.extract 1 pm.size).toList))) := Lib.hid (by
            rw [TT.out, cr_s HZZ.out hl, Lib.toList_data, Lib.toList_data, tx_data, hx0])
          clear hl hx0
          have MJ' := MJ.out
          generalize tx (majV v.data.toList) = mj at *
          have MJ2 := Lib.hid MJ'
          clear MJ'
          by_cases hc47 : c = 47
          · have e47 : ((pm[0].toNat : Int) == 47) = true := by rw [hv0 hp0, hc47]; rfl
            clear hv0
            rcases bool_or (mj.toList == (pm.extract 1 pm.size).toList) with h0 | h0
            · have R : Hid (cb = true) := Lib.hid (by rw [HC.out, h0, hc47]; rfl)
              clear hc47
              go_wp2
              go_ret
              exact NilIf.yes R.out HB1.out
            · have R : Hid (cb = false) := Lib.hid (by rw [HC.out, h0, Bool.and_false])
              clear hc47
              go_wp2_with fail
              refine (MJ2.out _).mono ?_
              rintro e w3 ⟨rfl, hb⟩
              have HB3 := Lib.hid (below_tr HB1.out hb)
              clear hb
              go_wp2_with fail
              refine (errorf_at F _ _ w w3 HF.out HB3.out).mono ?_
              rintro e w4 ⟨⟨t', x', rfl⟩, hb⟩
              have HB4 := Lib.hid hb
              clear hb
              go_wp2
              go_ret
              exact NilIf.no R.out (below_al HB4.out _)
          · by_cases hc46 : c = 46
            · have e47 : ((pm[0].toNat : Int) == 47) = false := by rw [hv0 hp0, hc46]; rfl
              have e46 : ((pm[0].toNat : Int) == 46) = true := by rw [hv0 hp0, hc46]; rfl
              clear hv0
              rcases bool_or (mj.toList == (pm.extract 1 pm.size).toList) with h0 | h0
              · have R : Hid (cb = true) := Lib.hid (by rw [HC.out, h0, hc46]; rfl)
                clear hc46 hc47
                go_wp2
                go_ret
                exact NilIf.yes R.out HB1.out
              · have R : Hid (cb = false) := Lib.hid (by rw [HC.out, h0, Bool.and_false])
                clear hc46 hc47
                go_wp2_with fail
                refine (MJ2.out _).mono ?_
                rintro e w3 ⟨rfl, hb⟩
                have HB3 := Lib.hid (below_tr HB1.out hb)
                clear hb
                go_wp2_with fail
                refine (errorf_at F _ _ w w3 HF.out HB3.out).mono ?_
                rintro e w4 ⟨⟨t', x', rfl⟩, hb⟩
                have HB4 := Lib.hid hb
                clear hb
                go_wp2
                go_ret
                exact NilIf.no R.out (below_al HB4.out _)
            · have e47 : ((pm[0].toNat : Int) == 47) = false := by
                rw [hv0 hp0, beq_eq_false_iff_ne]; intro e; exact hc47 (UInt8.toNat_inj.1 (by show c.toNat = 47; omega))
              have e46 : ((pm[0].toNat : Int) == 46) = false := by
                rw [hv0 hp0, beq_eq_false_iff_ne]; intro e; exact hc46 (UInt8.toNat_inj.1 (by show c.toNat = 46; omega))
              have R : Hid (cb = false) := Lib.hid (by rw [HC.out]; simp [hc47, hc46])
              clear hv0 hc46 hc47
              go_wp2_with fail
              refine (MJ2.out _).mono ?_
              rintro e w3 ⟨rfl, hb⟩
              have HB3 := Lib.hid (below_tr HB1.out hb)
              clear hb
              go_wp2_with fail
              refine (errorf_at F _ _ w w3 HF.out HB3.out).mono ?_
              rintro e w4 ⟨⟨t', x', rfl⟩, hb⟩
              have HB4 := Lib.hid hb
              clear hb
              go_wp2
              go_ret
              exact NilIf.no R.out (below_al HB4.out _)
      · go_wp2
        go_ret
        exact NilIf.yes (by rw [TT.out]; exact cr_yes HZ.out (by rw [← eq_lit]; exact HPZ.out)) HB0.out
    · have HZZ : Hid ((preB v000 v.data.toList && (pm.data.toList == [46, 118, 49])) = false) := Lib.hid (by rw [← eq_lit, hpz, Bool.and_false])
      cases z
      all_goals
        go_wp2_with fail
        refine (MJ.out _).mono ?_
        rintro e w1 ⟨rfl, hb⟩
        have HB1 := Lib.hid hb
        clear hb
        rcases bool_or pm.toList.isEmpty with he | he
        · have hl : pm.data.toList = [] := by rw [nil_lit] at he; exact List.isEmpty_iff.1 he
          have HC : Hid (cb = ((tx (majV v.data.toList)).toList == [118, 48] || ((tx (majV v.data.toList)).toList == [118, 49] || (tx (bldOf v.data.toList)).toList == [43, 105, 110, 99, 111, 109, 112, 97, 116, 105, 98, 108, 101]))) := Lib.hid (by
            rw [TT.out, cr_e HZZ.out hl, eq_lit, eq_lit, eq_lit, tx_data, tx_data]; rfl)
          clear hl
          rcases bool_or ((tx (majV v.data.toList)).toList == [118, 48]) with h0 | h0
          · have R : Hid (cb = true) := Lib.hid (by rw [HC.out, h0]; rfl)
            generalize tx (majV v.data.toList) = mj at *
            go_wp2
            go_ret
            exact NilIf.yes R.out HB1.out
          · rcases bool_or ((tx (majV v.data.toList)).toList == [118, 49]) with h1 | h1
            · have R : Hid (cb = true) := Lib.hid (by rw [HC.out, h1]; simp)
              generalize tx (majV v.data.toList) = mj at *
              go_wp2
              go_ret
              exact NilIf.yes R.out HB1.out
            · rcases bool_or ((tx (bldOf v.data.toList)).toList == [43, 105, 110, 99, 111, 109, 112, 97, 116, 105, 98, 108, 101]) with h2 | h2
              · have R : Hid (cb = true) := Lib.hid (by rw [HC.out, h2]; simp)
                have BD' := BD.out
                generalize tx (majV v.data.toList) = mj at *
                generalize tx (bldOf v.data.toList) = bl at *
                have BD2 := Lib.hid BD'
                clear BD'
                go_wp2_with fail
                refine (BD2.out _).mono ?_
                rintro e w2 ⟨rfl, hb⟩
                have HB2 := Lib.hid (below_tr HB1.out hb)
                clear hb
                go_wp2
                go_ret
                exact NilIf.yes R.out HB2.out
              · have R : Hid (cb = false) := Lib.hid (by rw [HC.out, h0, h1, h2]; rfl)
                have BD' := BD.out
                have MJ' := MJ.out
                generalize tx (majV v.data.toList) = mj at *
                generalize tx (bldOf v.data.toList) = bl at *
                have BD2 := Lib.hid BD'
                have MJ2 := Lib.hid MJ'
                clear BD' MJ'
                go_wp2_with fail
                refine (BD2.out _).mono ?_
                rintro e w2 ⟨rfl, hb⟩
                have HB2 := Lib.hid (below_tr HB1.out hb)
                clear hb
                go_wp2_with fail
                refine (MJ2.out _).mono ?_
                rintro e w3 ⟨rfl, hb⟩
                have HB3 := Lib.hid (below_tr HB2.out hb)
                clear hb
                go_wp2_with fail
                refine (errorf_at F _ _ w w3 HF.out HB3.out).mono ?_
                rintro e w4 ⟨⟨t', x', rfl⟩, hb⟩
                have HB4 := Lib.hid hb
                clear hb
                go_wp2
                go_ret
                exact NilIf.no R.out (below_al HB4.out _)
        · obtain ⟨c, r, hl⟩ : ∃ c r, pm.data.toList = c :: r := by
            rw [nil_lit] at he
            cases e : pm.data.toList with
            | nil => rw [e] at he; cases he
            | cons c r => exact ⟨c, r, rfl⟩
          obtain ⟨hp0, _, hv0, hx0⟩ := str_cons hl
          have HC : Hid (cb = ((c == 47 || c == 46) && ((tx (majV v.data.toList)).toList == (pm.extract 1 pm.size).toList))) := Lib.hid (by
            rw [TT.out, cr_s HZZ.out hl, Lib.toList_data, Lib.toList_data, tx_data, hx0])
          clear hl hx0
          have MJ' := MJ.out
          generalize tx (majV v.data.toList) = mj at *
          have MJ2 := Lib.hid MJ'
          clear MJ'
          by_cases hc47 : c = 47
          · have e47 : ((pm[0].toNat : Int) == 47) = true := by rw [hv0 hp0, hc47]; rfl
            clear hv0
            rcases bool_or (mj.toList == (pm.extract 1 pm.size).toList) with h0 | h0
            · have R : Hid (cb = true) := Lib.hid (by rw [HC.out, h0, hc47]; rfl)
              clear hc47
              go_wp2
              go_ret
              exact NilIf.yes R.out HB1.out
            · have R : Hid (cb = false) := Lib.hid (by rw [HC.out, h0, Bool.and_false])
              clear hc47
              go_wp2_with fail
              refine (MJ2.out _).mono ?_
              rintro e w3 ⟨rfl, hb⟩
              have HB3 := Lib.hid (below_tr HB1.out hb)
              clear hb
              go_wp2_with fail
              refine (errorf_at F _ _ w w3 HF.out HB3.out).mono ?_
              rintro e w4 ⟨⟨t', x', rfl⟩, hb⟩
              have HB4 := Lib.hid hb
              clear hb
              go_wp2
              go_ret
              exact NilIf.no R.out (below_al HB4.out _)
          · by_cases hc46 : c = 46
            · have e47 : ((pm[0].toNat : Int) == 47) = false := by rw [hv0 hp0, hc46]; rfl
              have e46 : ((pm[0].toNat : Int) == 46) = true := by rw [hv0 hp0, hc46]; rfl
              clear hv0
              rcases bool_or (mj.toList == (pm.extract 1 pm.size).toList) with h0 | h0
              · have R : Hid (cb = true) := Lib.hid (by rw [HC.out, h0, hc46]; rfl)
                clear hc46 hc47
                go_wp2
                go_ret
                exact NilIf.yes R.out HB1.out
              · have R : Hid (cb = false) := Lib.hid (by rw [HC.out, h0, Bool.and_false])
                clear hc46 hc47
                go_wp2_with fail
                refine (MJ2.out _).mono ?_
                rintro e w3 ⟨rfl, hb⟩
                have HB3 := Lib.hid (below_tr HB1.out hb)
                clear hb
                go_wp2_with fail
                refine (errorf_at F _ _ w w3 HF.out HB3.out).mono ?_
                rintro e w4 ⟨⟨t', x', rfl⟩, hb⟩
                have HB4 := Lib.hid hb
                clear hb
                go_wp2
                go_ret
                exact NilIf.no R.out (below_al HB4.out _)
            · have e47 : ((pm[0].toNat : Int) == 47) = false := by
                rw [hv0 hp0, beq_eq_false_iff_ne]; intro e; exact hc47 (UInt8.toNat_inj.1 (by show c.toNat = 47; omega))
              have e46 : ((pm[0].toNat : Int) == 46) = false := by
                rw [hv0 hp0, beq_eq_false_iff_ne]; intro e; exact hc46 (UInt8.toNat_inj.1 (by show c.toNat = 46; omega))
              have R : Hid (cb = false) := Lib.hid (by rw [HC.out]; simp [hc47, hc46])
              clear hv0 hc46 hc47
              go_wp2_with fail
              refine (MJ2.out _).mono ?_
              rintro e w3 ⟨rfl, hb⟩
              have HB3 := Lib.hid (below_tr HB1.out hb)
              clear hb
              go_wp2_with fail
              refine (errorf_at F _ _ w w3 HF.out HB3.out).mono ?_
              rintro e w4 ⟨⟨t', x', rfl⟩, hb⟩
              have HB4 := Lib.hid hb
              clear hb
              go_wp2
              go_ret
              exact NilIf.no R.out (below_al HB4.out _)
  · go_enter Tryf.func9, Tryf.ntmps9
    go_wp2_with fail
    refine (Q1.out _).mono ?_
    rintro e w' ⟨rfl, rfl⟩
    go_wp2_with fail
    refine (Q3.out _).mono ?_
    rintro e w' ⟨rfl, rfl⟩
    rcases bool_or (pm.toList == [46, 118, 49]) with hpz | hpz
    · have HPZ := Lib.hid hpz
      cases z
      · have HZZ : Hid ((preB v000 v.data.toList && (pm.data.toList == [46, 118, 49])) = false) := Lib.hid (by rw [HZ.out, Bool.false_and])
        go_wp2_with fail
        refine (MJ.out _).mono ?_
        rintro e w1 ⟨rfl, hb⟩
        have HB1 := Lib.hid hb
        clear hb
        clear hpz
        rcases bool_or pm.toList.isEmpty with he | he
        · have hl : pm.data.toList = [] := by rw [nil_lit] at he; exact List.isEmpty_iff.1 he
          have HC : Hid (cb = ((tx (majV v.data.toList)).toList == [118, 48] || ((tx (majV v.data.toList)).toList == [118, 49] || (tx (bldOf v.data.toList)).toList == [43, 105, 110, 99, 111, 109, 112, 97, 116, 105, 98, 108, 101]))) := Lib.hid (by
            rw [TT.out, cr_e HZZ.out hl, eq_lit, eq_lit, eq_lit, tx_data, tx_data]; rfl)
          clear hl
          rcases bool_or ((tx (majV v.data.toList)).toList == [118, 48]) with h0 | h0
          · have R : Hid (cb = true) := Lib.hid (by rw [HC.out, h0]; rfl)
            generalize tx (majV v.data.toList) = mj at *
            go_wp2
            go_ret
            exact NilIf.yes R.out HB1.out
          · rcases bool_or ((tx (majV v.data.toList)).toList == [118, 49]) with h1 | h1
            · have R : Hid (cb = true) := Lib.hid (by rw [HC.out, h1]; simp)
              generalize tx (majV v.data.toList) = mj at *
              go_wp2
              go_ret
              exact NilIf.yes R.out HB1.out
            · rcases bool_or ((tx (bldOf v.data.toList)).toList == [43, 105, 110, 99, 111, 109, 112, 97, 116, 105, 98, 108, 101]) with h2 | h2
              · have R : Hid (cb = true) := Lib.hid (by rw [HC.out, h2]; simp)
                have BD' := BD.out
                generalize tx (majV v.data.toList) = mj at *
                generalize tx (bldOf v.data.toList) = bl at *
                have BD2 := Lib.hid BD'
                clear BD'
                go_wp2_with fail
                refine (BD2.out _).mono ?_
                rintro e w2 ⟨rfl, hb⟩
                have HB2 := Lib.hid (below_tr HB1.out hb)
                clear hb
                go_wp2
                go_ret
                exact NilIf.yes R.out HB2.out
              · have R : Hid (cb = false) := Lib.hid (by rw [HC.out, h0, h1, h2]; rfl)
                have BD' := BD.out
                have MJ' := MJ.out
                generalize tx (majV v.data.toList) = mj at *
                generalize tx (bldOf v.data.toList) = bl at *
                have BD2 := Lib.hid BD'
                have MJ2 := Lib.hid MJ'
                clear BD' MJ'
                go_wp2_with fail
                refine (BD2.out _).mono ?_
                rintro e w2 ⟨rfl, hb⟩
                have HB2 := Lib.hid (below_tr HB1.out hb)
                clear hb
                go_wp2_with fail
                refine (MJ2.out _).mono ?_
                rintro e w3 ⟨rfl, hb⟩
                have HB3 := Lib.hid (below_tr HB2.out hb)
                clear hb
                go_wp2_with fail
                refine (errorf_at F _ _ w w3 HF.out HB3.out).mono ?_
                rintro e w4 ⟨⟨t', x', rfl⟩, hb⟩
                have HB4 := Lib.hid hb
                clear hb
                go_wp2
                go_ret
                exact NilIf.no R.out (below_al HB4.out _)
        · obtain ⟨c, r, hl⟩ : ∃ c r, pm.data.toList = c :: r := by
            rw [nil_lit] at he
            cases e : pm.data.toList with
            | nil => rw [e] at he; cases he
            | cons c r => exact ⟨c, r, rfl⟩
          obtain ⟨hp0, _, hv0, hx0⟩ := str_cons hl
          have HC : Hid (cb = ((c == 47 || c == 46) && ((tx (majV v.data.toList)).toList == (pm.extract 1 pm.size).toList))) := Lib.hid (by
            rw [TT.out, cr_s HZZ.out hl, Lib.toList_data, Lib.toList_data, tx_data, hx0])
          clear hl hx0
          have MJ' := MJ.out
          generalize tx (majV v.data.toList) = mj at *
          have MJ2 := Lib.hid MJ'
          clear MJ'
          by_cases hc47 : c = 47
          · have e47 : ((pm[0].toNat : Int) == 47) = true := by rw [hv0 hp0, hc47]; rfl
            clear hv0
            rcases bool_or (mj.toList == (pm.extract 1 pm.size).toList) with h0 | h0
            · have R : Hid (cb = true) := Lib.hid (by rw [HC.out, h0, hc47]; rfl)
              clear hc47
              go_wp2
              go_ret
              exact NilIf.yes R.out HB1.out
            · have R : Hid (cb = false) := Lib.hid (by rw [HC.out, h0, Bool.and_false])
              clear hc47
              go_wp2_with fail
              refine (MJ2.out _).mono ?_
              rintro e w3 ⟨rfl, hb⟩
              have HB3 := Lib.hid (below_tr HB1.out hb)
              clear hb
              go_wp2_with fail
              refine (errorf_at F _ _ w w3 HF.out HB3.out).mono ?_
              rintro e w4 ⟨⟨t', x', rfl⟩, hb⟩
              have HB4 := Lib.hid hb
              clear hb
              go_wp2
              go_ret
              exact NilIf.no R.out (below_al HB4.out _)
          · by_cases hc46 : c = 46
            · have e47 : ((pm[0].toNat : Int) == 47) = false := by rw [hv0 hp0, hc46]; rfl
              have e46 : ((pm[0].toNat : Int) == 46) = true := by rw [hv0 hp0, hc46]; rfl
              clear hv0
              rcases bool_or (mj.toList == (pm.extract 1 pm.size).toList) with h0 | h0
              · have R : Hid (cb = true) := Lib.hid (by rw [HC.out, h0, hc46]; rfl)
                clear hc46 hc47
                go_wp2
                go_ret
                exact NilIf.yes R.out HB1.out
              · have R : Hid (cb = false) := Lib.hid (by rw [HC.out, h0, Bool.and_false])
                clear hc46 hc47
                go_wp2_with fail
                refine (MJ2.out _).mono ?_
                rintro e w3 ⟨rfl, hb⟩
                have HB3 := Lib.hid (below_tr HB1.out hb)
                clear hb
                go_wp2_with fail
                refine (errorf_at F _ _ w w3 HF.out HB3.out).mono ?_
                rintro e w4 ⟨⟨t', x', rfl⟩, hb⟩
                have HB4 := Lib.hid hb
                clear hb
                go_wp2
                go_ret
                exact NilIf.no R.out (below_al HB4.out _)
            · have e47 : ((pm[0].toNat : Int) == 47) = false := by
                rw [hv0 hp0, beq_eq_false_iff_ne]; intro e; exact hc47 (UInt8.toNat_inj.1 (by show c.toNat = 47; omega))
              have e46 : ((pm[0].toNat : Int) == 46) = false := by
                rw [hv0 hp0, beq_eq_false_iff_ne]; intro e; exact hc46 (UInt8.toNat_inj.1 (by show c.toNat = 46; omega))
              have R : Hid (cb = false) := Lib.hid (by rw [HC.out]; simp [hc47, hc46])
              clear hv0 hc46 hc47
              go_wp2_with fail
              refine (MJ2.out _).mono ?_
              rintro e w3 ⟨rfl, hb⟩
              have HB3 := Lib.hid (below_tr HB1.out hb)
              clear hb
              go_wp2_with fail
              refine (errorf_at F _ _ w w3 HF.out HB3.out).mono ?_
              rintro e w4 ⟨⟨t', x', rfl⟩, hb⟩
              have HB4 := Lib.hid hb
              clear hb
              go_wp2
              go_ret
              exact NilIf.no R.out (below_al HB4.out _)
      · go_wp2
        go_ret
        exact NilIf.yes (by rw [TT.out]; exact cr_yes HZ.out (by rw [← eq_lit]; exact HPZ.out)) HB0.out
    · have HZZ : Hid ((preB v000 v.data.toList && (pm.data.toList == [46, 118, 49])) = false) := Lib.hid (by rw [← eq_lit, hpz, Bool.and_false])
      cases z
      all_goals
        go_wp2_with fail
        refine (MJ.out _).mono ?_
        rintro e w1 ⟨rfl, hb⟩
        have HB1 := Lib.hid hb
        clear hb
        rcases bool_or pm.toList.isEmpty with he | he
        · have hl : pm.data.toList = [] := by rw [nil_lit] at he; exact List.isEmpty_iff.1 he
          have HC : Hid (cb = ((tx (majV v.data.toList)).toList == [118, 48] || ((tx (majV v.data.toList)).toList == [118, 49] || (tx (bldOf v.data.toList)).toList == [43, 105, 110, 99, 111, 109, 112, 97, 116, 105, 98, 108, 101]))) := Lib.hid (by
            rw [TT.out, cr_e HZZ.out hl, eq_lit, eq_lit, eq_lit, tx_data, tx_data]; rfl)
          clear hl
          rcases bool_or ((tx (majV v.data.toList)).toList == [118, 48]) with h0 | h0
          · have R : Hid (cb = true) := Lib.hid (by rw [HC.out, h0]; rfl)
            generalize tx (majV v.data.toList) = mj at *
            go_wp2
            go_ret
            exact NilIf.yes R.out HB1.out
          · rcases bool_or ((tx (majV v.data.toList)).toList == [118, 49]) with h1 | h1
            · have R : Hid (cb = true) := Lib.hid (by rw [HC.out, h1]; simp)
              generalize tx (majV v.data.toList) = mj at *
              go_wp2
              go_ret
              exact NilIf.yes R.out HB1.out
            · rcases bool_or ((tx (bldOf v.data.toList)).toList == [43, 105, 110, 99, 111, 109, 112, 97, 116, 105, 98, 108, 101]) with h2 | h2
              · have R : Hid (cb = true) := Lib.hid (by rw [HC.out, h2]; simp)
                have BD' := BD.out
                generalize tx (majV v.data.toList) = mj at *
                generalize tx (bldOf v.data.toList) = bl at *
                have BD2 := Lib.hid BD'
                clear BD'
                go_wp2_with fail
                refine (BD2.out _).mono ?_
                rintro e w2 ⟨rfl, hb⟩
                have HB2 := Lib.hid (below_tr HB1.out hb)
                clear hb
                go_wp2
                go_ret
                exact NilIf.yes R.out HB2.out
              · have R : Hid (cb = false) := Lib.hid (by rw [HC.out, h0, h1, h2]; rfl)
                have BD' := BD.out
                have MJ' := MJ.out
                generalize tx (majV v.data.toList) = mj at *
                generalize tx (bldOf v.data.toList) = bl at *
                have BD2 := Lib.hid BD'
                have MJ2 := Lib.hid MJ'
                clear BD' MJ'
                go_wp2_with fail
                refine (BD2.out _).mono ?_
                rintro e w2 ⟨rfl, hb⟩
                have HB2 := Lib.hid (below_tr HB1.out hb)
                clear hb
                go_wp2_with fail
                refine (MJ2.out _).mono ?_
                rintro e w3 ⟨rfl, hb⟩
                have HB3 := Lib.hid (below_tr HB2.out hb)
                clear hb
                go_wp2_with fail
                refine (errorf_at F _ _ w w3 HF.out HB3.out).mono ?_
                rintro e w4 ⟨⟨t', x', rfl⟩, hb⟩
                have HB4 := Lib.hid hb
                clear hb
                go_wp2
                go_ret
                exact NilIf.no R.out (below_al HB4.out _)
        · obtain ⟨c, r, hl⟩ : ∃ c r, pm.data.toList = c :: r := by
            rw [nil_lit] at he
            cases e : pm.data.toList with
            | nil => rw [e] at he; cases he
            | cons c r => exact ⟨c, r, rfl⟩
          obtain ⟨hp0, _, hv0, hx0⟩ := str_cons hl
          have HC : Hid (cb = ((c == 47 || c == 46) && ((tx (majV v.data.toList)).toList == (pm.extract 1 pm.size).toList))) := Lib.hid (by
            rw [TT.out, cr_s HZZ.out hl, Lib.toList_data, Lib.toList_data, tx_data, hx0])
          clear hl hx0
          have MJ' := MJ.out
          generalize tx (majV v.data.toList) = mj at *
          have MJ2 := Lib.hid MJ'
          clear MJ'
          by_cases hc47 : c = 47
          · have e47 : ((pm[0].toNat : Int) == 47) = true := by rw [hv0 hp0, hc47]; rfl
            clear hv0
            rcases bool_or (mj.toList == (pm.extract 1 pm.size).toList) with h0 | h0
            · have R : Hid (cb = true) := Lib.hid (by rw [HC.out, h0, hc47]; rfl)
              clear hc47
              go_wp2
              go_ret
              exact NilIf.yes R.out HB1.out
            · have R : Hid (cb = false) := Lib.hid (by rw [HC.out, h0, Bool.and_false])
              clear hc47
              go_wp2_with fail
              refine (MJ2.out _).mono ?_
              rintro e w3 ⟨rfl, hb⟩
              have HB3 := Lib.hid (below_tr HB1.out hb)
              clear hb
              go_wp2_with fail
              refine (errorf_at F _ _ w w3 HF.out HB3.out).mono ?_
              rintro e w4 ⟨⟨t', x', rfl⟩, hb⟩
              have HB4 := Lib.hid hb
              clear hb
              go_wp2
              go_ret
              exact NilIf.no R.out (below_al HB4.out _)
          · by_cases hc46 : c = 46
            · have e47 : ((pm[0].toNat : Int) == 47) = false := by rw [hv0 hp0, hc46]; rfl
              have e46 : ((pm[0].toNat : Int) == 46) = true := by rw [hv0 hp0, hc46]; rfl
              clear hv0
              rcases bool_or (mj.toList == (pm.extract 1 pm.size).toList) with h0 | h0
              · have R : Hid (cb = true) := Lib.hid (by rw [HC.out, h0, hc46]; rfl)
                clear hc46 hc47
                go_wp2
                go_ret
                exact NilIf.yes R.out HB1.out
              · have R : Hid (cb = false) := Lib.hid (by rw [HC.out, h0, Bool.and_false])
                clear hc46 hc47
                go_wp2_with fail
                refine (MJ2.out _).mono ?_
                rintro e w3 ⟨rfl, hb⟩
                have HB3 := Lib.hid (below_tr HB1.out hb)
                clear hb
                go_wp2_with fail
                refine (errorf_at F _ _ w w3 HF.out HB3.out).mono ?_
                rintro e w4 ⟨⟨t', x', rfl⟩, hb⟩
                have HB4 := Lib.hid hb
                clear hb
                go_wp2
                go_ret
                exact NilIf.no R.out (below_al HB4.out _)
            · have e47 : ((pm[0].toNat : Int) == 47) = false := by
                rw [hv0 hp0, beq_eq_false_iff_ne]; intro e; exact hc47 (UInt8.toNat_inj.1 (by show c.toNat = 47; omega))
              have e46 : ((pm[0].toNat : Int) == 46) = false := by
                rw [hv0 hp0, beq_eq_false_iff_ne]; intro e; exact hc46 (UInt8.toNat_inj.1 (by show c.toNat = 46; omega))
              have R : Hid (cb = false) := Lib.hid (by rw [HC.out]; simp [hc47, hc46])
              clear hv0 hc46 hc47
              go_wp2_with fail
              refine (MJ2.out _).mono ?_
              rintro e w3 ⟨rfl, hb⟩
              have HB3 := Lib.hid (below_tr HB1.out hb)
              clear hb
              go_wp2_with fail
              refine (errorf_at F _ _ w w3 HF.out HB3.out).mono ?_
              rintro e w4 ⟨⟨t', x', rfl⟩, hb⟩
              have HB4 := Lib.hid hb
              clear hb
              go_wp2
              go_ret
              exact NilIf.no R.out (below_al HB4.out _)

end Go.Proofs.YtdinaphcglmhoaaFmt
