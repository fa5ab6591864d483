/-
  The walks of spec.numbers, spec.pre, spec.Compare at texts that read alike.
-/
import Derived.Test.YtdinaphcglmhoaaTwiceP
import Derived.Test.YtdinaphcglmhoaaRead
import Derived.Deep.QuietTactic
namespace Go.Proofs.Ytdinaphcglmhoaa
open Go.RowKit
set_option linter.unusedVariables false
set_option linter.unusedSimpArgs false

theorem numbers_same (x : ByteArray) (w : World) :
    Calls Try.prog 34 #[.string x, .string x] w fun e w' => e = .returned (.int .i64 0) ∧ w' = w := by
  have e : (x.toList == x.toList) = true := by simp
  go_enter Try.func34, Try.ntmps34
  go_wp2
  go_ret
  exact ⟨rfl, rfl⟩
set_option maxRecDepth 100000 in
theorem prerel_same (x : ByteArray) (w : World) :
    Calls Try.prog 35 #[.string x, .string x] w fun e w' => e = .returned (.int .i64 0) ∧ w' = w := by
  have e : (x.toList == x.toList) = true := by simp
  go_enter Try.func35, Try.ntmps35
  go_wp2
  go_ret
  exact ⟨rfl, rfl⟩

/-- Two structs in memory. -/
structure Two (w0 w : World) (t : TypeId) (g g' : Nat) (x0 x1 x2 x3 x4 y4 : ByteArray) (k k' : Int) : Prop where
  below : Below w0.heap.size w0 w
  b1 : w.heap[g]? = some (.cells #[.string x0, .string x1, .string x2, .string x3, .string x4, .int .i64 k] t (0, 0))
  b2 : w.heap[g']? = some (.cells #[.string x0, .string x1, .string x2, .string x3, .string y4, .int .i64 k'] t (0, 0))
theorem Two.cells {w0 w : World} {t : TypeId} {g g' : Nat} {x0 x1 x2 x3 x4 y4 : ByteArray} {k k' : Int} (h : Two w0 w t g g' x0 x1 x2 x3 x4 y4 k k') :
    w.cell? ⟨g, 0, none⟩ = some (.string x0) ∧ w.cell? ⟨g, 1, none⟩ = some (.string x1) ∧ w.cell? ⟨g, 2, none⟩ = some (.string x2) ∧ w.cell? ⟨g, 3, none⟩ = some (.string x3) ∧
    w.cell? ⟨g', 0, none⟩ = some (.string x0) ∧ w.cell? ⟨g', 1, none⟩ = some (.string x1) ∧ w.cell? ⟨g', 2, none⟩ = some (.string x2) ∧ w.cell? ⟨g', 3, none⟩ = some (.string x3) :=
  ⟨cell_of_row w _ 0 _ t (0, 0) h.b1, cell_of_row w _ 1 _ t (0, 0) h.b1, cell_of_row w _ 2 _ t (0, 0) h.b1, cell_of_row w _ 3 _ t (0, 0) h.b1, cell_of_row w _ 0 _ t (0, 0) h.b2, cell_of_row w _ 1 _ t (0, 0) h.b2, cell_of_row w _ 2 _ t (0, 0) h.b2, cell_of_row w _ 3 _ t (0, 0) h.b2⟩
theorem Two.drewN {w0 w : World} {t : TypeId} {g g' : Nat} {x0 x1 x2 x3 x4 y4 : ByteArray} {k k' : Int} (h : Two w0 w t g g' x0 x1 x2 x3 x4 y4 k k') (n : Nat) : Two w0 (w.drewN n) t g g' x0 x1 x2 x3 x4 y4 k k' := by
  induction n with
  | zero => exact h
  | succ n ih => exact ⟨ih.below.drew, ih.b1, ih.b2⟩
theorem Two.new {w0 w1 w2 : World} {t : TypeId} {x0 x1 x2 x3 x4 y4 : ByteArray} {k k' : Int} (h1 : Below w0.heap.size w0 w1)
    (h2 : Below (w1.alloc (.cells #[.string x0, .string x1, .string x2, .string x3, .string x4, .int .i64 k] t)).heap.size (w1.alloc (.cells #[.string x0, .string x1, .string x2, .string x3, .string x4, .int .i64 k] t)) w2) :
    Two w0 (w2.alloc (.cells #[.string x0, .string x1, .string x2, .string x3, .string y4, .int .i64 k'] t)) t w1.heap.size w2.heap.size x0 x1 x2 x3 x4 y4 k k' := by
  have hlt : w1.heap.size < (w1.alloc (.cells #[.string x0, .string x1, .string x2, .string x3, .string x4, .int .i64 k] t)).heap.size := by simp
  have hg : w2.heap[w1.heap.size]? = some (.cells #[.string x0, .string x1, .string x2, .string x3, .string x4, .int .i64 k] t (0, 0)) := (h2.block _ hlt).trans (heap_alloc_new w1 _)
  have hlt2 : w1.heap.size < w2.heap.size := by
    rcases Nat.lt_or_ge w1.heap.size w2.heap.size with h | h
    · exact h
    · rw [Array.getElem?_eq_none h] at hg; cases hg
  refine ⟨below_al (below_tr (below_al h1 _) h2) _, ?_, heap_alloc_new w2 _⟩
  rw [Below.heap_alloc _ _ _ hlt2]
  exact hg

theorem below_drewN {g : Nat} {w w' : World} (h : Below g w w') (n : Nat) : Below g w (w'.drewN n) := by
  induction n with
  | zero => exact h
  | succ n ih => exact ih.drew

set_option maxRecDepth 100000 in
set_option maxHeartbeats 4000000 in
theorem compare_same (s t : ByteArray) (w : World) (hs : s.size ≤ 4294967296) (ht : t.size ≤ 4294967296)
    (h : match readV t.data.toList with | none => readV s.data.toList = none | some r => ∃ r', readV s.data.toList = some r' ∧ r'.n0 = r.n0 ∧ r'.n1 = r.n1 ∧ r'.n2 = r.n2 ∧ r'.pre = r.pre) :
    Calls Try.prog 20 #[.string s, .string t] w fun e w' => e = .returned (.int .i64 0) ∧ Below w.heap.size w w' := by
  have RS := fun wx => read_any s wx hs
  have RT := fun wx => read_any t wx ht
  unfold RvE at RS RT
  cases hP : readV t.data.toList with
  | none =>
    rw [hP] at h RT
    rw [h] at RS
    have RS := Lib.hid RS
    have RT := Lib.hid RT
    clear h hP
    go_enter Try.func20, Try.ntmps20
    go_wp2_with fail
    refine (RS.out _).mono ?_
    rintro e w1 ⟨⟨a, b, c, d, f, k, rfl⟩, hb⟩
    have HB := Lib.hid hb
    clear hb
    unfold rvAgg
    go_wp2_with fail
    refine (RT.out _).mono ?_
    rintro e w2 ⟨⟨a', b', c', d', f', k', rfl⟩, hb⟩
    have HB2 := Lib.hid (below_al (below_tr (below_al HB.out _) hb) (.cells #[.string a', .string b', .string c', .string d', .string f', .int .i64 k'] 46))
    clear hb
    unfold rvAgg
    go_wp2
    go_ret
    exact ⟨rfl, HB2.out⟩
  | some r =>
    rw [hP] at h RT
    obtain ⟨r', hr, e0, e1, e2, e3⟩ := h
    rw [hr] at RS
    simp only at RS RT
    rw [e0, e1, e2, e3] at RS
    generalize tx r.n0 = x0 at *
    generalize tx r.n1 = x1 at *
    generalize tx r.n2 = x2 at *
    generalize tx r.pre = x3 at *
    generalize tx r.plus = y4 at *
    generalize tx r'.plus = x4 at *
    generalize (r.told : Int) = k2 at *
    generalize (r'.told : Int) = k1 at *
    have RS := Lib.hid RS
    have RT := Lib.hid RT
    clear hP hr e0 e1 e2 e3
    go_enter Try.func20, Try.ntmps20
    go_wp2_with fail
    refine (RS.out _).mono ?_
    rintro e w1 ⟨rfl, hb⟩
    have HB := Lib.hid hb
    clear hb
    unfold rvAgg
    go_wp2_with fail
    refine (RT.out _).mono ?_
    rintro e w2 ⟨rfl, hb⟩
    have PW := Two.new (y4 := y4) (k' := k2) HB.out hb
    have PW := Lib.hid PW
    clear hb
    unfold rvAgg
    go_wp2
    go_loopw [34] (fun i wr => ∃ k : Nat, k ≤ 3 ∧ i = .int .i64 k ∧ Two w wr 46 w1.heap.size w2.heap.size x0 x1 x2 x3 x4 y4 k1 k2) (fun i _ => 3 - (intOf i).toNat)
    case atStart => exact ⟨0, by omega, rfl, PW.out⟩
    case round =>
      obtain ⟨k, hk, rfl, PQ⟩ := hrel
      obtain ⟨c0, c1, c2, c3, d0, d1, d2, d3⟩ := PQ.cells
      have PQ' := Lib.hid PQ
      clear PQ PW
      have hk3 : k = 0 ∨ k = 1 ∨ k = 2 ∨ k = 3 := by omega
      rcases hk3 with rfl | rfl | rfl | rfl
      · go_wp2
        go_quiet ((go_at_call 34; exact Calls.quiet_of_same (numbers_same _ _)))
        go_wp2
        go_roundw
        case rel => exact ⟨0 + 1, by omega, by go_num, PQ'.out.drewN _⟩
        case measure => simp [intOf]
      · go_wp2
        go_quiet ((go_at_call 34; exact Calls.quiet_of_same (numbers_same _ _)))
        go_wp2
        go_roundw
        case rel => exact ⟨1 + 1, by omega, by go_num, PQ'.out.drewN _⟩
        case measure => simp [intOf]
      · go_wp2
        go_quiet ((go_at_call 34; exact Calls.quiet_of_same (numbers_same _ _)))
        go_wp2
        go_roundw
        case rel => exact ⟨2 + 1, by omega, by go_num, PQ'.out.drewN _⟩
        case measure => simp [intOf]
      · go_wp2_with (go_at_call 35; refine (prerel_same _ _).mono ?_; rintro e w' ⟨rfl, rfl⟩)
        go_ret
        exact ⟨rfl, PQ'.out.below⟩
end Go.Proofs.Ytdinaphcglmhoaa
