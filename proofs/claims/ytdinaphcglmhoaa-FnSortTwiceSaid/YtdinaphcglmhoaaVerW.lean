/-
  The walk of semver.Compare, with the draws.
-/
import Derived.Test.YtdinaphcglmhoaaCmpX
import Derived.Test.YtdinaphcglmhoaaParseD
namespace Go.Proofs.Ytdinaphcglmhoaa
open Go.RowKit
set_option linter.unusedVariables false
set_option linter.unusedSimpArgs false

theorem read_facts {l : Bs} {r : Rv} (h : readV l = some r) : Hd r.pre ∧ r.n0.length ≤ l.length + 4 ∧ r.n1.length ≤ l.length + 4 ∧ r.n2.length ≤ l.length + 4 ∧ r.pre.length ≤ l.length + 4 ∧ (r.pre ≠ [] → ∀ x ∈ cutL (r.pre.drop 1) 46, x ≠ []) := by
  have hp : PreOk r.pre → Hd r.pre ∧ (r.pre ≠ [] → ∀ x ∈ cutL (r.pre.drop 1) 46, x ≠ []) := fun hp => by
    rcases hp with hp | ⟨y, hy, hq⟩
    · exact ⟨.inl hp, fun h => absurd hp h⟩
    · refine ⟨.inr (by rw [hy]; rfl), fun _ x hx => ?_⟩
      rw [hy] at hx
      unfold partsB at hq
      have := List.all_eq_true.1 hq x (by simpa using hx)
      unfold pieceB at this
      rw [Bool.and_eq_true] at this
      intro e; rw [e] at this; simp at this
  rcases read_dec h with ⟨_, h1, h2, h3, _, _, hl⟩ | ⟨_, h2, h3, _, _, _, hl⟩ | ⟨_, _, _, _, h3, _, hl⟩
  · have e := congrArg List.length hl
    simp only [toSv] at *
    have := hp (.inl h3)
    refine ⟨this.1, ?_, ?_, ?_, ?_, this.2⟩ <;> simp_all <;> omega
  · have e := congrArg List.length hl
    simp only [toSv] at *
    have := hp (.inl h3)
    refine ⟨this.1, ?_, ?_, ?_, ?_, this.2⟩ <;> simp_all <;> omega
  · have e := congrArg List.length hl
    simp only [toSv] at *
    have := hp h3
    refine ⟨this.1, ?_, ?_, ?_, ?_, this.2⟩ <;> simp at e <;> omega

def SvS (x0 x1 x2 x4 : ByteArray) (w : World) (e : Ending) (w' : World) : Prop := ∃ x3 x5 : ByteArray, e = .returned (.tuple #[.agg #[.string x0, .string x1, .string x2, .string x3, .string x4, .string x5], .bool true]) ∧ BelowD w.heap.size w w'
def SvN (w : World) (e : Ending) (w' : World) : Prop := ∃ a b c d f g : ByteArray, e = .returned (.tuple #[.agg #[.string a, .string b, .string c, .string d, .string f, .string g], .bool false]) ∧ BelowD w.heap.size w w'
theorem sv_some {s : ByteArray} {p : Rv} (h : readV s.data.toList = some p) (hs : s.size ≤ 2147483647) (w : World) : Calls Try.prog 62 #[.string s] w (SvS (tx p.n0) (tx p.n1) (tx p.n2) (tx p.pre) w) :=
  (parse_anyD s w (by omega)).mono fun e w' ⟨he, hb⟩ => by
    rw [read_parse, h] at he
    exact ⟨_, _, he, hb⟩
theorem sv_none {s : ByteArray} (h : readV s.data.toList = none) (hs : s.size ≤ 2147483647) (w : World) : Calls Try.prog 62 #[.string s] w (SvN w) :=
  (parse_anyD s w (by omega)).mono fun e w' ⟨he, hb⟩ => by
    rw [read_parse, h] at he
    obtain ⟨a, b, c, d, f, g, rfl⟩ := he
    exact ⟨a, b, c, d, f, g, rfl, hb⟩

theorem belowD_drewN {g : Nat} {w w' : World} (h : BelowD g w w') (n : Nat) : BelowD g w (w'.drewN n) :=
  ⟨⟨h.os, h.tape, h.output, h.size, h.block⟩, by show w.drawn ≤ w'.drawn + n; have := h.drawn; omega⟩

theorem six_cells (w : World) (g : Nat) (t : TypeId) (a b c d e f : ByteArray) (h : w.heap[g]? = some (.cells #[.string a, .string b, .string c, .string d, .string e, .string f] t (0, 0))) :
    w.cell? ⟨g, 0, none⟩ = some (.string a) ∧ w.cell? ⟨g, 1, none⟩ = some (.string b) ∧ w.cell? ⟨g, 2, none⟩ = some (.string c) ∧ w.cell? ⟨g, 4, none⟩ = some (.string e) :=
  ⟨cell_of_row w g 0 _ t (0, 0) h, cell_of_row w g 1 _ t (0, 0) h, cell_of_row w g 2 _ t (0, 0) h, cell_of_row w g 4 _ t (0, 0) h⟩
theorem new_six {w w2 : World} {t : TypeId} {a b c d e f : ByteArray} (h : BelowD (w.alloc (.cells #[.string a, .string b, .string c, .string d, .string e, .string f] t)).heap.size (w.alloc (.cells #[.string a, .string b, .string c, .string d, .string e, .string f] t)) w2) :
    w.heap.size < w2.heap.size ∧ w2.cell? ⟨w.heap.size, 0, none⟩ = some (.string a) ∧ w2.cell? ⟨w.heap.size, 1, none⟩ = some (.string b) ∧ w2.cell? ⟨w.heap.size, 2, none⟩ = some (.string c) ∧ w2.cell? ⟨w.heap.size, 4, none⟩ = some (.string e) := by
  have hg := (h.block w.heap.size (by simp)).trans (heap_alloc_new w _)
  refine ⟨?_, six_cells _ _ _ _ _ _ _ _ _ hg⟩
  rcases Nat.lt_or_ge w.heap.size w2.heap.size with h | h
  · exact h
  · rw [Array.getElem?_eq_none h] at hg; cases hg

theorem verC_some {v w : Bs} {r s : Rv} (h : readV v = some r) (k : readV w = some s) : verC v w = keyC (key r) (key s) := by unfold verC; rw [h, k]; rfl
theorem keyC_eq (r s : Rv) : keyC (key r) (key s) = if intC r.n0 s.n0 ≠ 0 then intC r.n0 s.n0 else if intC r.n1 s.n1 ≠ 0 then intC r.n1 s.n1 else if intC r.n2 s.n2 ≠ 0 then intC r.n2 s.n2 else preC (pk r.pre) (pk s.pre) := rfl

set_option maxHeartbeats 4000000 in
theorem semCompare_any (v u : ByteArray) (w : World) (hv : v.size ≤ 2147483647) (hu : u.size ≤ 2147483647) :
    Calls Try.prog 55 #[.string v, .string u] w fun e w' => e = .returned (.int .i64 (verC v.data.toList u.data.toList)) ∧ BelowD w.heap.size w w' := by
  have B0 := Lib.hid (BelowD.refl w.heap.size w)
  cases h1 : readV v.data.toList with
  | none =>
    have PV := Lib.hid (sv_none h1 hv)
    cases h2 : readV u.data.toList with
    | none =>
      have PU := Lib.hid (sv_none h2 hu)
      have E : Hid (verC v.data.toList u.data.toList = 0) := Lib.hid (by unfold verC; rw [h1, h2]; rfl)
      clear h1 h2
      go_enter Try.func55, Try.ntmps55
      go_wp2_with fail
      refine (PV.out _).mono ?_
      rintro e w1 ⟨a, b, c, d, f, g, rfl, hb⟩
      have HB := Lib.hid hb
      clear hb
      go_wp2_with fail
      refine (PU.out _).mono ?_
      rintro e w2 ⟨a', b', c', d', f', g', rfl, hb⟩
      have HB2 := Lib.hid (belowD_al (belowD_tr (belowD_al HB.out _) hb) (.cells #[.string a', .string b', .string c', .string d', .string f', .string g'] 68))
      clear hb
      go_wp2
      go_ret
      exact ⟨ret_int E.out.symm, HB2.out⟩
    | some s =>
      have PU := sv_some h2 hu
      have E : Hid (verC v.data.toList u.data.toList = -1) := Lib.hid (by unfold verC; rw [h1, h2]; rfl)
      clear h1 h2
      generalize tx s.n0 = y0 at *
      generalize tx s.n1 = y1 at *
      generalize tx s.n2 = y2 at *
      generalize tx s.pre = y4 at *
      have PU := Lib.hid PU
      go_enter Try.func55, Try.ntmps55
      go_wp2_with fail
      refine (PV.out _).mono ?_
      rintro e w1 ⟨a, b, c, d, f, g, rfl, hb⟩
      have HB := Lib.hid hb
      clear hb
      go_wp2_with fail
      refine (PU.out _).mono ?_
      rintro e w2 ⟨y3, y5, rfl, hb⟩
      have HB2 := Lib.hid (belowD_al (belowD_tr (belowD_al HB.out _) hb) (.cells #[.string y0, .string y1, .string y2, .string y3, .string y4, .string y5] 68))
      clear hb
      go_wp2
      go_ret
      exact ⟨ret_int E.out.symm, HB2.out⟩
  | some r =>
    have PV := sv_some h1 hv
    cases h2 : readV u.data.toList with
    | none =>
      have PU := Lib.hid (sv_none h2 hu)
      have E : Hid (verC v.data.toList u.data.toList = 1) := Lib.hid (by unfold verC; rw [h1, h2]; rfl)
      clear h1 h2
      generalize tx r.n0 = x0 at *
      generalize tx r.n1 = x1 at *
      generalize tx r.n2 = x2 at *
      generalize tx r.pre = x4 at *
      have PV := Lib.hid PV
      go_enter Try.func55, Try.ntmps55
      go_wp2_with fail
      refine (PV.out _).mono ?_
      rintro e w1 ⟨x3, x5, rfl, hb⟩
      have HB := Lib.hid hb
      clear hb
      go_wp2_with fail
      refine (PU.out _).mono ?_
      rintro e w2 ⟨a', b', c', d', f', g', rfl, hb⟩
      have HB2 := Lib.hid (belowD_al (belowD_tr (belowD_al HB.out _) hb) (.cells #[.string a', .string b', .string c', .string d', .string f', .string g'] 68))
      clear hb
      go_wp2
      go_ret
      exact ⟨ret_int E.out.symm, HB2.out⟩
    | some s =>
      have PU := sv_some h2 hu
      obtain ⟨k0, k1, k2, k3, k4, -⟩ := read_facts h1
      obtain ⟨m0, m1, m2, m3, m4, -⟩ := read_facts h2
      rw [size_len] at k1 k2 k3 k4 m1 m2 m3 m4
      have E : Hid (verC v.data.toList u.data.toList = if intC r.n0 s.n0 ≠ 0 then intC r.n0 s.n0 else if intC r.n1 s.n1 ≠ 0 then intC r.n1 s.n1 else if intC r.n2 s.n2 ≠ 0 then intC r.n2 s.n2 else preC (pk r.pre) (pk s.pre)) := Lib.hid (by rw [verC_some h1 h2, keyC_eq])
      have C0 := fun wx => compareInt_any (tx r.n0) (tx s.n0) wx (by rw [tx_size]; omega) (by rw [tx_size]; omega)
      have C1 := fun wx => compareInt_any (tx r.n1) (tx s.n1) wx (by rw [tx_size]; omega) (by rw [tx_size]; omega)
      have C2 := fun wx => compareInt_any (tx r.n2) (tx s.n2) wx (by rw [tx_size]; omega) (by rw [tx_size]; omega)
      have C4 := fun wx => comparePre_any (tx r.pre) (tx s.pre) wx (by rw [tx_size]; omega) (by rw [tx_size]; omega) (by rw [tx_data]; exact k0) (by rw [tx_data]; exact m0)
      simp only [tx_data] at C0 C1 C2 C4
      have C0 := Lib.hid C0
      have C1 := Lib.hid C1
      have C2 := Lib.hid C2
      have C4 := Lib.hid C4
      clear h1 h2 k0 k1 k2 k3 k4 m0 m1 m2 m3 m4
      generalize verC v.data.toList u.data.toList = L at *
      generalize intC r.n0 s.n0 = i0 at *
      generalize intC r.n1 s.n1 = i1 at *
      generalize intC r.n2 s.n2 = i2 at *
      generalize preC (pk r.pre) (pk s.pre) = i4 at *
      generalize tx r.n0 = x0 at *
      generalize tx r.n1 = x1 at *
      generalize tx r.n2 = x2 at *
      generalize tx r.pre = x4 at *
      generalize tx s.n0 = y0 at *
      generalize tx s.n1 = y1 at *
      generalize tx s.n2 = y2 at *
      generalize tx s.pre = y4 at *
      have PV := Lib.hid PV
      have PU := Lib.hid PU
      go_enter Try.func55, Try.ntmps55
      go_wp2_with fail
      refine (PV.out _).mono ?_
      rintro e w1 ⟨x3, x5, rfl, hb⟩
      have HB := Lib.hid hb
      clear hb
      go_wp2_with fail
      refine (PU.out _).mono ?_
      rintro e w2 ⟨y3, y5, rfl, hb⟩
      obtain ⟨hlt, p0, p1, p2, p4⟩ := new_six hb
      have HB2 := Lib.hid (belowD_al (belowD_tr (belowD_al HB.out _) hb) (.cells #[.string y0, .string y1, .string y2, .string y3, .string y4, .string y5] 68))
      clear hb PV PU B0 HB
      by_cases e0 : i0 = 0
      · subst e0
        by_cases e1 : i1 = 0
        · subst e1
          by_cases e2 : i2 = 0
          · subst e2
            have EE : Hid (L = i4) := Lib.hid (by rw [E.out]; rfl)
            clear E
            go_wp2_with fail
            refine (C0.out _).mono ?_
            rintro e w' ⟨rfl, rfl⟩
            go_wp2_with fail
            refine (C1.out _).mono ?_
            rintro e w' ⟨rfl, rfl⟩
            go_wp2_with fail
            refine (C2.out _).mono ?_
            rintro e w' ⟨rfl, rfl⟩
            go_wp2_with fail
            refine (C4.out _).mono ?_
            rintro e w' ⟨rfl, q, rfl⟩
            go_wp2
            go_ret
            exact ⟨ret_int EE.out.symm, belowD_drewN HB2.out _⟩
          · have EE : Hid (L = i2) := Lib.hid (by rw [E.out]; simp [e2])
            have t2 : (i2 == 0) = false := beq_eq_false_iff_ne.2 e2
            clear E
            go_wp2_with fail
            refine (C0.out _).mono ?_
            rintro e w' ⟨rfl, rfl⟩
            go_wp2_with fail
            refine (C1.out _).mono ?_
            rintro e w' ⟨rfl, rfl⟩
            go_wp2_with fail
            refine (C2.out _).mono ?_
            rintro e w' ⟨rfl, rfl⟩
            go_wp2
            go_ret
            exact ⟨ret_int EE.out.symm, HB2.out⟩
        · have EE : Hid (L = i1) := Lib.hid (by rw [E.out]; simp [e1])
          have t1 : (i1 == 0) = false := beq_eq_false_iff_ne.2 e1
          clear E
          go_wp2_with fail
          refine (C0.out _).mono ?_
          rintro e w' ⟨rfl, rfl⟩
          go_wp2_with fail
          refine (C1.out _).mono ?_
          rintro e w' ⟨rfl, rfl⟩
          go_wp2
          go_ret
          exact ⟨ret_int EE.out.symm, HB2.out⟩
      · have EE : Hid (L = i0) := Lib.hid (by rw [E.out]; simp [e0])
        have t0 : (i0 == 0) = false := beq_eq_false_iff_ne.2 e0
        clear E
        go_wp2_with fail
        refine (C0.out _).mono ?_
        rintro e w' ⟨rfl, rfl⟩
        go_wp2
        go_ret
        exact ⟨ret_int EE.out.symm, HB2.out⟩
end Go.Proofs.Ytdinaphcglmhoaa
