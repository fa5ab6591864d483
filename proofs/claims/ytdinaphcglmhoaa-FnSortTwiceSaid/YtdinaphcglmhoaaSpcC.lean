/-
  The walk of spec.Compare at any two texts.
-/
import Derived.Test.YtdinaphcglmhoaaSpc
import Derived.Test.YtdinaphcglmhoaaVerW
import Derived.Test.YtdinaphcglmhoaaRead
namespace Go.Proofs.Ytdinaphcglmhoaa
open Go.RowKit
set_option linter.unusedVariables false
set_option linter.unusedSimpArgs false

def RdS (x0 x1 x2 x3 : ByteArray) (w : World) (e : Ending) (w' : World) : Prop := ∃ (x4 : ByteArray) (k : Int), e = .returned (.tuple #[.agg #[.string x0, .string x1, .string x2, .string x3, .string x4, .int .i64 k], .bool true]) ∧ Hid (Below w.heap.size w w')
def RdN (w : World) (e : Ending) (w' : World) : Prop := ∃ (a b c d f : ByteArray) (k : Int), e = .returned (.tuple #[.agg #[.string a, .string b, .string c, .string d, .string f, .int .i64 k], .bool false]) ∧ Hid (Below w.heap.size w w')
theorem rd_some {s : ByteArray} {p : Rv} (h : readV s.data.toList = some p) (hs : s.size ≤ 2147483647) (w : World) : Calls Try.prog 25 #[.string s] w (RdS (tx p.n0) (tx p.n1) (tx p.n2) (tx p.pre) w) :=
  (read_any s w (by omega)).mono fun e w' ⟨he, hb⟩ => by rw [h] at he; exact ⟨_, _, he, Lib.hid hb⟩
theorem rd_none {s : ByteArray} (h : readV s.data.toList = none) (hs : s.size ≤ 2147483647) (w : World) : Calls Try.prog 25 #[.string s] w (RdN w) :=
  (read_any s w (by omega)).mono fun e w' ⟨he, hb⟩ => by
    rw [h] at he
    obtain ⟨a, b, c, d, f, k, rfl⟩ := he
    exact ⟨a, b, c, d, f, k, rfl, Lib.hid hb⟩

/-- Two structs in memory. -/
structure Two2 (w0 w : World) (g g' : Nat) (x0 x1 x2 x3 y0 y1 y2 y3 : ByteArray) : Prop where
  below : Below w0.heap.size w0 w
  c0 : w.cell? ⟨g, 0, none⟩ = some (.string x0)
  c1 : w.cell? ⟨g, 1, none⟩ = some (.string x1)
  c2 : w.cell? ⟨g, 2, none⟩ = some (.string x2)
  c3 : w.cell? ⟨g, 3, none⟩ = some (.string x3)
  d0 : w.cell? ⟨g', 0, none⟩ = some (.string y0)
  d1 : w.cell? ⟨g', 1, none⟩ = some (.string y1)
  d2 : w.cell? ⟨g', 2, none⟩ = some (.string y2)
  d3 : w.cell? ⟨g', 3, none⟩ = some (.string y3)
theorem Two2.drewN {w0 w : World} {g g' : Nat} {x0 x1 x2 x3 y0 y1 y2 y3 : ByteArray} (h : Two2 w0 w g g' x0 x1 x2 x3 y0 y1 y2 y3) (n : Nat) : Two2 w0 (w.drewN n) g g' x0 x1 x2 x3 y0 y1 y2 y3 :=
  ⟨below_dn h.below n, h.c0, h.c1, h.c2, h.c3, h.d0, h.d1, h.d2, h.d3⟩
theorem Two2.new {w0 w1 w2 : World} {t : TypeId} {x0 x1 x2 x3 x4 y0 y1 y2 y3 y4 : ByteArray} {k k' : Int} (h1 : Below w0.heap.size w0 w1)
    (h2 : Below (w1.alloc (.cells #[.string x0, .string x1, .string x2, .string x3, .string x4, .int .i64 k] t)).heap.size (w1.alloc (.cells #[.string x0, .string x1, .string x2, .string x3, .string x4, .int .i64 k] t)) w2) :
    Two2 w0 (w2.alloc (.cells #[.string y0, .string y1, .string y2, .string y3, .string y4, .int .i64 k'] t)) w1.heap.size w2.heap.size x0 x1 x2 x3 y0 y1 y2 y3 := by
  have hlt : w1.heap.size < (w1.alloc (.cells #[.string x0, .string x1, .string x2, .string x3, .string x4, .int .i64 k] t)).heap.size := by simp
  have hg : w2.heap[w1.heap.size]? = some (.cells #[.string x0, .string x1, .string x2, .string x3, .string x4, .int .i64 k] t (0, 0)) := (h2.block _ hlt).trans (heap_alloc_new w1 _)
  have hlt2 : w1.heap.size < w2.heap.size := by
    rcases Nat.lt_or_ge w1.heap.size w2.heap.size with h | h
    · exact h
    · rw [Array.getElem?_eq_none h] at hg; cases hg
  have a : (w2.alloc (.cells #[.string y0, .string y1, .string y2, .string y3, .string y4, .int .i64 k'] t)).heap[w1.heap.size]? = some (.cells #[.string x0, .string x1, .string x2, .string x3, .string x4, .int .i64 k] t (0, 0)) := by
    rw [Below.heap_alloc _ _ _ hlt2]; exact hg
  have b := heap_alloc_new w2 (.cells #[.string y0, .string y1, .string y2, .string y3, .string y4, .int .i64 k'] t)
  exact ⟨below_al (below_tr (below_al h1 _) h2) _, cell_of_row _ _ 0 _ t (0, 0) a, cell_of_row _ _ 1 _ t (0, 0) a, cell_of_row _ _ 2 _ t (0, 0) a, cell_of_row _ _ 3 _ t (0, 0) a, cell_of_row _ _ 0 _ t (0, 0) b, cell_of_row _ _ 1 _ t (0, 0) b, cell_of_row _ _ 2 _ t (0, 0) b, cell_of_row _ _ 3 _ t (0, 0) b⟩

set_option maxRecDepth 100000 in
set_option maxHeartbeats 4000000 in
theorem specCompare_any (v u : ByteArray) (w : World) (hv : v.size ≤ 2147483647) (hu : u.size ≤ 2147483647) :
    Calls Try.prog 20 #[.string v, .string u] w (PreE (verC v.data.toList u.data.toList) w) := by
  cases h1 : readV v.data.toList with
  | none =>
    have PV := Lib.hid (rd_none h1 hv)
    cases h2 : readV u.data.toList with
    | none =>
      have PU := Lib.hid (rd_none h2 hu)
      have E : Hid (verC v.data.toList u.data.toList = 0) := Lib.hid (by unfold verC; rw [h1, h2]; rfl)
      clear h1 h2
      go_enter Try.func20, Try.ntmps20
      go_wp2_with fail
      refine (PV.out _).mono ?_
      rintro e w1 ⟨a, b, c, d, f, k, rfl, HB⟩
      go_wp2_with fail
      refine (PU.out _).mono ?_
      rintro e w2 ⟨a', b', c', d', f', k', rfl, hb⟩
      have HB2 := Lib.hid (below_al (below_tr (below_al HB.out _) hb.out) (.cells #[.string a', .string b', .string c', .string d', .string f', .int .i64 k'] 46))
      clear hb HB
      go_wp2
      go_ret
      exact ⟨ret_int E.out.symm, HB2.out⟩
    | some s =>
      have PU := rd_some h2 hu
      have E : Hid (verC v.data.toList u.data.toList = -1) := Lib.hid (by unfold verC; rw [h1, h2]; rfl)
      clear h1 h2
      generalize tx s.n0 = y0 at *
      generalize tx s.n1 = y1 at *
      generalize tx s.n2 = y2 at *
      generalize tx s.pre = y3 at *
      have PU := Lib.hid PU
      go_enter Try.func20, Try.ntmps20
      go_wp2_with fail
      refine (PV.out _).mono ?_
      rintro e w1 ⟨a, b, c, d, f, k, rfl, HB⟩
      go_wp2_with fail
      refine (PU.out _).mono ?_
      rintro e w2 ⟨y4, k', rfl, hb⟩
      have HB2 := Lib.hid (below_al (below_tr (below_al HB.out _) hb.out) (.cells #[.string y0, .string y1, .string y2, .string y3, .string y4, .int .i64 k'] 46))
      clear hb HB
      go_wp2
      go_ret
      exact ⟨ret_int E.out.symm, HB2.out⟩
  | some r =>
    have PV := rd_some h1 hv
    cases h2 : readV u.data.toList with
    | none =>
      have PU := Lib.hid (rd_none h2 hu)
      have E : Hid (verC v.data.toList u.data.toList = 1) := Lib.hid (by unfold verC; rw [h1, h2]; rfl)
      clear h1 h2
      generalize tx r.n0 = x0 at *
      generalize tx r.n1 = x1 at *
      generalize tx r.n2 = x2 at *
      generalize tx r.pre = x3 at *
      have PV := Lib.hid PV
      go_enter Try.func20, Try.ntmps20
      go_wp2_with fail
      refine (PV.out _).mono ?_
      rintro e w1 ⟨x4, k, rfl, HB⟩
      go_wp2_with fail
      refine (PU.out _).mono ?_
      rintro e w2 ⟨a', b', c', d', f', k', rfl, hb⟩
      have HB2 := Lib.hid (below_al (below_tr (below_al HB.out _) hb.out) (.cells #[.string a', .string b', .string c', .string d', .string f', .int .i64 k'] 46))
      clear hb HB
      go_wp2
      go_ret
      exact ⟨ret_int E.out.symm, HB2.out⟩
    | some s =>
      have PU := rd_some h2 hu
      obtain ⟨k0, k1, k2, k3, k4, k5⟩ := read_facts h1
      obtain ⟨m0, m1, m2, m3, m4, m5⟩ := read_facts h2
      rw [size_len] at k1 k2 k3 k4 m1 m2 m3 m4
      have E : Hid (verC v.data.toList u.data.toList = if intC r.n0 s.n0 ≠ 0 then intC r.n0 s.n0 else if intC r.n1 s.n1 ≠ 0 then intC r.n1 s.n1 else if intC r.n2 s.n2 ≠ 0 then intC r.n2 s.n2 else preC (pk r.pre) (pk s.pre)) := Lib.hid (by rw [verC_some h1 h2, keyC_eq])
      have C0 := fun wx => numbers_any (tx r.n0) (tx s.n0) wx (by rw [tx_size]; omega) (by rw [tx_size]; omega)
      have C1 := fun wx => numbers_any (tx r.n1) (tx s.n1) wx (by rw [tx_size]; omega) (by rw [tx_size]; omega)
      have C2 := fun wx => numbers_any (tx r.n2) (tx s.n2) wx (by rw [tx_size]; omega) (by rw [tx_size]; omega)
      have C4 := fun wx => prerel_any (tx r.pre) (tx s.pre) wx (by rw [tx_size]; omega) (by rw [tx_size]; omega) (by rw [tx_data]; exact k0) (by rw [tx_data]; exact m0) (by rw [tx_data]; exact k5) (by rw [tx_data]; exact m5)
      simp only [tx_data] at C0 C1 C2 C4
      have N0 := Lib.hid C0
      have N1 := Lib.hid C1
      have N2 := Lib.hid C2
      have N4 := Lib.hid C4
      clear h1 h2 k0 k1 k2 k3 k4 k5 m0 m1 m2 m3 m4 m5 C0 C1 C2 C4
      generalize verC v.data.toList u.data.toList = L at *
      generalize intC r.n0 s.n0 = i0 at *
      generalize intC r.n1 s.n1 = i1 at *
      generalize intC r.n2 s.n2 = i2 at *
      generalize preC (pk r.pre) (pk s.pre) = i4 at *
      generalize tx r.n0 = x0 at *
      generalize tx r.n1 = x1 at *
      generalize tx r.n2 = x2 at *
      generalize tx r.pre = x3 at *
      generalize tx s.n0 = y0 at *
      generalize tx s.n1 = y1 at *
      generalize tx s.n2 = y2 at *
      generalize tx s.pre = y3 at *
      have QV := Lib.hid PV
      have QU := Lib.hid PU
      clear PV PU
      go_enter Try.func20, Try.ntmps20
      go_wp2_with fail
      refine (QV.out _).mono ?_
      rintro e w1 ⟨x4, k, rfl, HB⟩
      go_wp2_with fail
      refine (QU.out _).mono ?_
      rintro e w2 ⟨y4, k', rfl, hb⟩
      have PW := Lib.hid (Two2.new (k' := k') (y0 := y0) (y1 := y1) (y2 := y2) (y3 := y3) (y4 := y4) HB.out hb.out)
      clear HB hb QV QU
      go_wp2
      go_loopw [34] (fun i wr => ∃ k : Nat, k ≤ 3 ∧ i = .int .i64 k ∧ Hid ((0 < k → i0 = 0) ∧ (1 < k → i1 = 0) ∧ (2 < k → i2 = 0)) ∧ Two2 w wr w1.heap.size w2.heap.size x0 x1 x2 x3 y0 y1 y2 y3) (fun i _ => 3 - (intOf i).toNat)
      case atStart => exact ⟨0, by omega, rfl, Lib.hid ⟨by omega, by omega, by omega⟩, PW.out⟩
      case round =>
        obtain ⟨k, hk, rfl, hz, PQ⟩ := hrel
        have PQ' := Lib.hid PQ
        obtain ⟨-, c0, c1, c2, c3, d0, d1, d2, d3⟩ := PQ
        clear PW
        have hk3 : k = 0 ∨ k = 1 ∨ k = 2 ∨ k = 3 := by omega
        rcases hk3 with rfl | rfl | rfl | rfl
        · by_cases e0 : i0 = 0
          · subst e0
            go_wp2
            go_quiet ((go_at_call 34; exact Calls.quiet_of_same (N0.out _)))
            go_wp2
            go_roundw
            case rel => exact ⟨0 + 1, by omega, by go_num, Lib.hid (by simp), PQ'.out.drewN _⟩
            case measure => simp [intOf]
          · have EE : Hid (L = i0) := Lib.hid (by rw [E.out]; simp [e0])
            have t0 : (i0 == 0) = false := beq_eq_false_iff_ne.2 e0
            clear E
            go_wp2
            go_quiet ((go_at_call 34; exact Calls.quiet_of_same (N0.out _)))
            go_wp2
            go_ret
            exact ⟨ret_int EE.out.symm, (PQ'.out.drewN _).below⟩
        · have z0 := hz.out.1 (by omega)
          subst z0
          by_cases e1 : i1 = 0
          · subst e1
            go_wp2
            go_quiet ((go_at_call 34; exact Calls.quiet_of_same (N1.out _)))
            go_wp2
            go_roundw
            case rel => exact ⟨1 + 1, by omega, by go_num, Lib.hid (by simp), PQ'.out.drewN _⟩
            case measure => simp [intOf]
          · have EE : Hid (L = i1) := Lib.hid (by rw [E.out]; simp [e1])
            have t1 : (i1 == 0) = false := beq_eq_false_iff_ne.2 e1
            clear E
            go_wp2
            go_quiet ((go_at_call 34; exact Calls.quiet_of_same (N1.out _)))
            go_wp2
            go_ret
            exact ⟨ret_int EE.out.symm, (PQ'.out.drewN _).below⟩
        · have z0 := hz.out.1 (by omega)
          have z1 := hz.out.2.1 (by omega)
          subst z0; subst z1
          by_cases e2 : i2 = 0
          · subst e2
            go_wp2
            go_quiet ((go_at_call 34; exact Calls.quiet_of_same (N2.out _)))
            go_wp2
            go_roundw
            case rel => exact ⟨2 + 1, by omega, by go_num, Lib.hid (by simp), PQ'.out.drewN _⟩
            case measure => simp [intOf]
          · have EE : Hid (L = i2) := Lib.hid (by rw [E.out]; simp [e2])
            have t2 : (i2 == 0) = false := beq_eq_false_iff_ne.2 e2
            clear E
            go_wp2
            go_quiet ((go_at_call 34; exact Calls.quiet_of_same (N2.out _)))
            go_wp2
            go_ret
            exact ⟨ret_int EE.out.symm, (PQ'.out.drewN _).below⟩
        · have EE : Hid (L = i4) := Lib.hid (by rw [E.out, hz.out.1 (by omega), hz.out.2.1 (by omega), hz.out.2.2 (by omega)]; rfl)
          clear E hz
          go_wp2_with fail
          refine (N4.out _).mono ?_
          rintro e w' ⟨rfl, hb⟩
          have HF := Lib.hid (below_tr PQ'.out.below hb)
          clear hb
          go_wp2
          go_ret
          exact ⟨ret_int EE.out.symm, HF.out⟩
end Go.Proofs.Ytdinaphcglmhoaa
