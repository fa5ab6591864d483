/-
  PROVED: laws.FnSortSuffix returns true for every path, version and two texts: two versions that are the same ahead of the stroke stand in the order of what stands behind it. No condition.
  The frame of this text is a shell that the kit's proof-skeleton wrote.
-/
import Derived.Test.YtdinaphcglmhoaaRows
import Derived.Test.YtdinaphcglmhoaaSuf2
import Derived.Test.YtdinaphcglmhoaaRead
import Derived.Test.YtdinaphcglmhoaaLong
import Derived.Test.YtdinaphcglmhoaaIn
import Derived.Deep.RegionHeld3
import Derived.BigQuiet
import Derived.ProofKit
import Derived.OpenShut
import Derived.ShutString
namespace Go.Proofs.Ytdinaphcglmhoaa.fnSortSuffix
open Go.ChangeShapes Go.WideShapes Go.ChangeAt Go.RowKit
open Go.ChangeMaps (open_string shut_string)
set_option linter.unusedVariables false

theorem own : ownKnob Try.prog.godebug = none := by kernel_rfl

theorem eq_self (s : ByteArray) : (s.toList == s.toList) = true := by simp
theorem below_dq {g : Nat} {w w' : World} (h : Below g w w') (n : Nat) : Below g w (w'.drewN n) := by
  induction n with
  | zero => exact h
  | succ n ih => exact ih.drew
def SemE (f : Bool) (w : World) (e : Ending) (w' : World) : Prop := ∃ (a0 a1 a2 a3 a4 : ByteArray) (k : Int), e = .returned (.tuple #[.agg #[.string a0, .string a1, .string a2, .string a3, .string a4, .int .i64 k], .bool f]) ∧ Below w.heap.size w w'
theorem semE_none {v : ByteArray} (h : readV v.data.toList = none) (hs : v.size ≤ 4294967296) (wx : World) : Calls Try.prog 25 #[.string v] wx (SemE false wx) :=
  (read_any v wx hs).mono fun e w' ⟨he, hb⟩ => by
    rw [h] at he
    obtain ⟨a0, a1, a2, a3, a4, k, rfl⟩ := he
    exact ⟨a0, a1, a2, a3, a4, k, rfl, hb⟩
theorem semE_some {v : ByteArray} {r : Rv} (h : readV v.data.toList = some r) (hs : v.size ≤ 4294967296) (wx : World) : Calls Try.prog 25 #[.string v] wx (SemE true wx) :=
  (read_any v wx hs).mono fun e w' ⟨he, hb⟩ => by
    rw [h] at he
    exact ⟨_, _, _, _, _, _, he, hb⟩

theorem two_boxes (w : World) (t : TypeId) (p x q y : ByteArray) (nx ny : Nat) (hx : nx = w.heap.size) (hy : ny = nx + 1) :
    ((w.alloc (.cells #[.string p, .string x] t)).alloc (.cells #[.string q, .string y] t)).cell? ⟨nx, 0, none⟩ = some (.string p) ∧ ((w.alloc (.cells #[.string p, .string x] t)).alloc (.cells #[.string q, .string y] t)).cell? ⟨nx, 1, none⟩ = some (.string x) ∧
    ((w.alloc (.cells #[.string p, .string x] t)).alloc (.cells #[.string q, .string y] t)).cell? ⟨ny, 0, none⟩ = some (.string q) ∧ ((w.alloc (.cells #[.string p, .string x] t)).alloc (.cells #[.string q, .string y] t)).cell? ⟨ny, 1, none⟩ = some (.string y) := by
  subst hx; subst hy
  have a := blk_old (w.alloc (.cells #[.string p, .string x] t)) (.cells #[.string q, .string y] t) w.heap.size _ (by simp) (blk_new w (.cells #[.string p, .string x] t) _ rfl)
  have b := blk_new (w.alloc (.cells #[.string p, .string x] t)) (.cells #[.string q, .string y] t) (w.heap.size + 1) (by simp)
  exact ⟨cell_of_row _ _ 0 _ t (0, 0) a, cell_of_row _ _ 1 _ t (0, 0) a, cell_of_row _ _ 0 _ t (0, 0) b, cell_of_row _ _ 1 _ t (0, 0) b⟩

set_option maxRecDepth 8000 in
set_option maxHeartbeats 4000000 in
theorem walk (p v a b : ByteArray) (w0 : p.size ≤ maxLen) (w1 : v.size ≤ maxLen) (w2 : a.size ≤ maxLen) (w3 : b.size ≤ maxLen) (w : World) :
    Calls Try.prog 10 #[.string p, .string v, .string a, .string b] w fun e w' => e = .returned (.bool true) ∧ Below w.heap.size w w' := by
  unfold maxLen at w0 w1 w2 w3
  have hb0 := Lib.hid (Below.refl w.heap.size w)
  by_cases h0 : p.size ≤ 2147483647 ∧ v.size ≤ 2147483647 ∧ a.size ≤ 2147483647 ∧ b.size ≤ 2147483647
  · obtain ⟨h0, h1, h2, h3⟩ := h0
    have LG := Lib.hid (fun wx => long_any v wx (by unfold maxLen; omega))
    have hab : (a ++ b).size = a.size + b.size := by rw [ByteArray.size_append]
    have IN := Lib.hid (fun wx => in_any (a ++ b) 47 wx (by unfold maxLen; omega))
    cases hr : readV v.data.toList with
    | none =>
      have RD := Lib.hid (semE_none hr (by omega))
      go_enter Try.func10, Try.ntmps10
      go_wp2_with fail
      refine (RD.out _).mono ?_
      rintro e w' ⟨a0, a1, a2, a3, a4, k, rfl, hb⟩
      have HB := Lib.hid (below_al hb (.cells #[.string a0, .string a1, .string a2, .string a3, .string a4, .int .i64 k] 46))
      clear hb
      go_wp2
      go_ret
      exact ⟨rfl, HB.out⟩
    | some r =>
      have hv := read_no47 hr
      have RD := Lib.hid (semE_some hr (by omega))
      have HB1 := Lib.hid (fun (wx : World) (hb : Below w.heap.size w wx) (o : Obj) => below_al hb o)
      by_cases h5 : 500 < v.size
      · have L : Hid (∀ wx, Calls Try.prog 13 #[.string v] wx fun e w' => e = .returned (.bool true) ∧ wx = w') := Lib.hid (fun wx => by
          have := LG.out wx
          rw [decide_eq_true h5] at this; exact this)
        clear LG IN h5
        go_enter Try.func10, Try.ntmps10
        go_wp2_with fail
        refine (RD.out _).mono ?_
        rintro e w' ⟨a0, a1, a2, a3, a4, k, rfl, hb⟩
        have HB := Lib.hid (HB1.out _ hb)
        clear hb
        go_wp2_with (go_at_call 13; refine (L.out _).mono ?_; rintro e w' ⟨rfl, rfl⟩)
        go_ret
        exact ⟨rfl, HB.out _⟩
      · have L : Hid (∀ wx, Calls Try.prog 13 #[.string v] wx fun e w' => e = .returned (.bool false) ∧ wx = w') := Lib.hid (fun wx => by
          have := LG.out wx
          rw [decide_eq_false h5] at this; exact this)
        clear LG
        cases hin : inB (a ++ b).data.toList 47 with
        | true =>
          rw [hin] at IN
          clear h5
          go_enter Try.func10, Try.ntmps10
          go_wp2_with fail
          refine (RD.out _).mono ?_
          rintro e w' ⟨a0, a1, a2, a3, a4, k, rfl, hb⟩
          have HB := Lib.hid (HB1.out _ hb)
          clear hb
          go_wp2_with (first | (go_at_call 13; refine (L.out _).mono ?_; rintro e w' ⟨rfl, rfl⟩) | (go_at_call 26; refine (IN.out _).mono ?_; rintro e w' ⟨rfl, rfl⟩))
          go_ret
          exact ⟨rfl, HB.out _⟩
        | false =>
          rw [hin] at IN
          cases hl : Op.bytesLess a.toList b.toList with
          | false =>
            clear h5
            go_enter Try.func10, Try.ntmps10
            go_wp2_with fail
            refine (RD.out _).mono ?_
            rintro e w' ⟨a0, a1, a2, a3, a4, k, rfl, hb⟩
            have HB := Lib.hid (HB1.out _ hb)
            clear hb
            go_wp2_with (first | (go_at_call 13; refine (L.out _).mono ?_; rintro e w' ⟨rfl, rfl⟩) | (go_at_call 26; refine (IN.out _).mono ?_; rintro e w' ⟨rfl, rfl⟩))
            go_ret
            exact ⟨rfl, HB.out _⟩
          | true =>
            have S1 := Lib.hid (fun g cap wx (hr : Row2 wx g 24 p (stv v a) p (stv v b)) => sort_row p v a b hv (by omega) h2 h3 hl false g cap _ wx hr)
            have S2 := Lib.hid (fun g cap wx (hr : Row2 wx g 24 p (stv v b) p (stv v a)) => sort_row p v a b hv (by omega) h2 h3 hl true g cap _ wx hr)
            have EX : v ++ ⟨#[47]⟩ ++ a = stv v a := rfl
            have EY : v ++ ⟨#[47]⟩ ++ b = stv v b := rfl
            have z1 : ((v ++ ⟨#[47]⟩ : ByteArray)).size = v.size + 1 := by rw [ByteArray.size_append]; rfl
            go_enter Try.func10, Try.ntmps10
            go_wp2_with fail
            refine (RD.out _).mono ?_
            rintro e w' ⟨a0, a1, a2, a3, a4, k, rfl, hb⟩
            have HB := Lib.hid (HB1.out _ hb)
            clear hb
            go_wp2_with (first | (go_at_call 13; refine (L.out _).mono ?_; rintro e w' ⟨rfl, rfl⟩) | (go_at_call 26; refine (IN.out _).mono ?_; rintro e w' ⟨rfl, rfl⟩))
            have B0 := Lib.hid (below_al (below_al (HB.out (.cells #[.string a0, .string a1, .string a2, .string a3, .string a4, .int .i64 k] 46)) (.cells #[.string p, .string (stv v a)] 24)) (.cells #[.string p, .string (stv v b)] 24))
            obtain ⟨x0, x1, y0, y1⟩ := two_boxes (w'.alloc (.cells #[.string a0, .string a1, .string a2, .string a3, .string a4, .int .i64 k] 46)) 24 p (stv v a) p (stv v b) (w'.heap.size + 1) (w'.heap.size + 1 + 1) (by simp) (by simp)
            clear HB EX EY
            generalize ((w'.alloc (.cells #[.string a0, .string a1, .string a2, .string a3, .string a4, .int .i64 k] 46)).alloc (.cells #[.string p, .string (stv v a)] 24)).alloc (.cells #[.string p, .string (stv v b)] 24) = W at B0 x0 x1 y0 y1 ⊢
            generalize w'.heap.size + 1 + 1 = ny at y0 y1 ⊢
            generalize w'.heap.size + 1 = nx at x0 x1 ⊢
            generalize stv v a = X at *
            generalize stv v b = Y at *
            go_region_held3 (fun w' => w'.cell? ⟨nx, 0, none⟩ = some (.string p) ∧ w'.cell? ⟨nx, 1, none⟩ = some (.string X) ∧ w'.cell? ⟨ny, 0, none⟩ = some (.string p) ∧ w'.cell? ⟨ny, 1, none⟩ = some (.string Y))
              (first
                | go_keep
                | (go_split_ands
                   refine ⟨(hbc.out.cell (World.block_lt_of_cell? _ _ (by assumption))).trans (by assumption), (hbc.out.cell (World.block_lt_of_cell? _ _ (by assumption))).trans (by assumption), (hbc.out.cell (World.block_lt_of_cell? _ _ (by assumption))).trans (by assumption), (hbc.out.cell (World.block_lt_of_cell? _ _ (by assumption))).trans (by assumption)⟩)
                | (go_split_ands
                   refine ⟨(hbb.out.cell (World.block_lt_of_cell? _ _ (by assumption))).trans (by assumption), (hbb.out.cell (World.block_lt_of_cell? _ _ (by assumption))).trans (by assumption), (hbb.out.cell (World.block_lt_of_cell? _ _ (by assumption))).trans (by assumption), (hbb.out.cell (World.block_lt_of_cell? _ _ (by assumption))).trans (by assumption)⟩))
              (first
                | (go_at_call 24; refine (S1.out _ _ _ ?_).mono ?_; (first | exact (Row2.new _ _ _ _ _ _ _ (by simp)) | exact (Row2.new _ _ _ _ _ _ _ (by simp)).drew | exact ((Row2.new _ _ _ _ _ _ _ (by simp)).alloc _).drew); rintro e w' ⟨g1, cap1, rfl, d1, hbb⟩)
                | (go_at_call 24; refine (S2.out _ _ _ ?_).mono ?_; (first | exact (Row2.new _ _ _ _ _ _ _ (by simp)) | exact (Row2.new _ _ _ _ _ _ _ (by simp)).drew.below hbb.out | exact ((Row2.new _ _ _ _ _ _ _ (by simp)).alloc _).drew.below hbb.out); rintro e w' ⟨g2, cap2, rfl, d2, hbc⟩))
            all_goals rename_i hq
            all_goals have Dg : Hid (Done2 w' g1 p X Y) := Lib.hid (by first | exact d1.below hbc.out | exact (d1.alloc _).below hbc.out)
            all_goals have HBf : Hid (Below w.heap.size w w') := Lib.hid (by first | exact below_tr (below_al (below_tr ((below_al B0.out _).drew) hbb.out) _) hbc.out | exact below_tr (below_tr ((below_al (below_al B0.out _) _).drew) hbb.out) hbc.out)
            all_goals obtain ⟨⟨c0, c1⟩, ⟨c2, c3⟩⟩ := Dg.out
            all_goals obtain ⟨⟨e0, e1⟩, ⟨e2, e3⟩⟩ := d2
            all_goals obtain ⟨q0, q1, q2, q3⟩ := hq
            all_goals clear d1 hbb hbc B0 S1 S2 x0 x1 y0 y1 IN L RD HB1 hb0 Dg hin hl z1 h5 hr hv hab
            all_goals have ep := eq_self p
            all_goals have eX := eq_self X
            all_goals have eY := eq_self Y
            all_goals go_wp2
            all_goals go_quiet (fail)
            all_goals go_wp2
            all_goals go_ret
            all_goals exact ⟨rfl, below_dq HBf.out _⟩
  · have h : 2147483647 < p.size ∨ (p.size ≤ 2147483647 ∧ 2147483647 < v.size) ∨ (p.size ≤ 2147483647 ∧ v.size ≤ 2147483647 ∧ 2147483647 < a.size) ∨ (p.size ≤ 2147483647 ∧ v.size ≤ 2147483647 ∧ a.size ≤ 2147483647 ∧ 2147483647 < b.size) := by omega
    rcases h with h | ⟨h, k⟩ | ⟨h, k, m⟩ | ⟨h, k, m, n⟩
    all_goals clear h0
    all_goals go_enter Try.func10, Try.ntmps10
    all_goals go_wp2
    all_goals go_ret
    all_goals exact ⟨rfl, hb0.out⟩

set_option maxRecDepth 100000 in
theorem lifted (os : Os) (started : os.Started) (H : Type) (enc : TypeId × Value → H) :
    ReturnsInHanded {} Try.checked os 10 .any (Rows.fnSortSuffixSpec.pre6 enc Try.prog Try.f10 Rows.fnSortSuffixRow.domain false) (Rows.fnSortSuffixSpec.post enc Try.prog Try.f10 false true false false) := by
  refine returnsInHanded_of_change (C := Try.checked) own started (by kernel_rfl) Try.func10
    (ChangeSpec.witness6 (enc := enc) (C := Try.checked) false ⟨#[], #[.string ByteArray.empty, .string ByteArray.empty, .string ByteArray.empty, .string ByteArray.empty], []⟩ 8 (by kernel_rfl) (by kernel_rfl) (by kernel_rfl) (by kernel_rfl)) ?_
  intro W base args ds gs before hval0 hW hcnd _
  have hval : ∀ (j : Nat) t v, Try.f10.params[j]? = some t → args[j]? = some v → Value.okWide Try.prog W .any base t v := hval0
  have hW' := hW
  obtain ⟨p, q, hA0, hV, rfl, hfz, hnd⟩ := hW
  have hA : DataW.TrodAll enc Try.prog W 0 (fun _ => true) true Try.f10.params.toList args.toList ds p := hA0
  rw [Try.params10] at hA hval
  obtain ⟨v0, vs0, d0, ds0, p0, q0, hargs, rfl, rfl, h0, r0⟩ := trodAll_cons hA
  obtain ⟨v1, vs1, d1, ds1, p1, q1, rfl, rfl, rfl, h1, r1⟩ := trodAll_cons r0
  obtain ⟨v2, vs2, d2, ds2, p2, q2, rfl, rfl, rfl, h2, r2⟩ := trodAll_cons r1
  obtain ⟨v3, vs3, d3, ds3, p3, q3, rfl, rfl, rfl, h3, r3⟩ := trodAll_cons r2
  obtain ⟨rfl, rfl, rfl⟩ := trodAll_nil r3
  obtain rfl : args = #[v0, v1, v2, v3] := by cases args; simp_all
  obtain ⟨rfl, rfl⟩ := trodVars_none hV
  obtain ⟨a0, rfl, rfl, rfl, w0⟩ := open_string Try.underlying9 (hval 0 9 v0 rfl rfl) h0
  obtain ⟨a1, rfl, rfl, rfl, w1⟩ := open_string Try.underlying9 (hval 1 9 v1 rfl rfl) h1
  obtain ⟨a2, rfl, rfl, rfl, w2⟩ := open_string Try.underlying9 (hval 2 9 v2 rfl rfl) h2
  obtain ⟨a3, rfl, rfl, rfl, w3⟩ := open_string Try.underlying9 (hval 3 9 v3 rfl rfl) h3
  clear hA0 hval0
  simp only [List.append_nil] at hW'
  refine (walk a0 a1 a2 a3 w0 w1 w2 w3 W).mono fun e W' ⟨he, hb⟩ => ?_
  subst he
  exact ⟨_, rfl, law_post (pa := []) (pv := []) hW' (trodAll_cons_mk (shut_bool Try.underlying4 _) trodAll_mk0) (trodAll_cons_mk (shut_string Try.underlying9 w0) (trodAll_cons_mk (shut_string Try.underlying9 w1) (trodAll_cons_mk (shut_string Try.underlying9 w2) (trodAll_cons_mk (shut_string Try.underlying9 w3) trodAll_mk0)))) rfl hb⟩

theorem over : Rows.fnSortSuffixRow.holds Try.pinned (OpenSpec.ofChange Rows.fnSortSuffixSpec) :=
  OpenClaim.holds_of_wide 10 Try.f10 rfl rfl rfl rfl rfl rfl rfl ⟨rfl, rfl, rfl, rfl, rfl⟩ rfl rfl rfl rfl rfl (by kernel_rfl) Try.func10 (by kernel_rfl)
    (of_decide_eq_true (by kernel_rfl)) (by unfold Func.isWrapper; first | (rw [if_pos (by decide +kernel)]; kernel_rfl) | (rw [if_neg (by decide +kernel)]; exact ⟨rfl, rfl⟩))
    (fun os started H enc _ => lifted os started H enc)

theorem proved : Rows.FnSortSuffixSaid :=
  over
end Go.Proofs.Ytdinaphcglmhoaa.fnSortSuffix
