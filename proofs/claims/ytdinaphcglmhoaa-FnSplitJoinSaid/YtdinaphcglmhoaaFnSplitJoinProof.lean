/-
  PROVED: laws.FnSplitJoin returns true for every path and number: a path with /vN behind is split into the path and /vN, N two and more; with /v1 or /v1.2 behind it is refused. No condition.
  The frame of this text is a shell that the kit's proof-skeleton wrote.
-/
import Derived.Test.YtdinaphcglmhoaaRows
import Derived.Test.YtdinaphcglmhoaaSpw
import Derived.Test.YtdinaphcglmhoaaVerP
import Derived.Test.YtdinaphcglmhoaaNum
import Derived.Test.YtdinaphcglmhoaaPath2
import Derived.ProofKit
import Derived.OpenShut
import Derived.ShutString
namespace Go.Proofs.Ytdinaphcglmhoaa.fnSplitJoin
open Go.ChangeShapes Go.WideShapes Go.ChangeAt Go.RowKit
open Go.ChangeMaps (open_string shut_string)
set_option linter.unusedVariables false

theorem own : ownKnob Try.prog.godebug = none := by kernel_rfl

/-- impl.SplitPathVersion at a path that is none of gopkg.in -/
theorem ispv (s : ByteArray) (hs : s.size ≤ 4294967296) (hp : gop.isPrefixOf s.data.toList = false) (w : World) :
    Calls Try.prog 15 #[.string s] w fun e w' => SpvE s.data.toList e ∧ Below w.heap.size w w' := by
  have G := Lib.hid (fun wx => spv_any s wx hs hp)
  clear hp
  go_enter Try.func15, Try.ntmps15
  go_wp2_with (go_at_call 31; refine (G.out _).mono ?_; rintro e w' ⟨⟨i, hi, rfl⟩, hb⟩; have HB := Lib.hid hb; have HI := Lib.hid hi; clear hb hi; unfold trip)
  go_ret3
  exact ⟨⟨i, HI.out, rfl⟩, HB.out⟩

theorem is_ver (s d : ByteArray) (ds : Bs) (hd : d.data.toList = [47, 118] ++ ds) : (s ++ d).data.toList = s.data.toList ++ [47, 118] ++ ds := by
  simp [ByteArray.data_append, hd]
theorem sized (s d : ByteArray) (h : s.size ≤ 500) (hd : d.size ≤ 100) : (s ++ d).size ≤ 4294967296 := by
  simp [ByteArray.size_append]; omega

/-- what the three calls hand back -/
theorem at_num (s : ByteArray) (h : s.size ≤ 500) (hg : ¬ (8 ≤ s.data.toList.length ∧ s.data.toList.take 8 = [103, 111, 112, 107, 103, 46, 105, 110])) (m : Nat) (hm : 2 ≤ m) (hm9 : m < 1000000000) (w : World) :
    Calls Try.prog 15 #[.string (s ++ ⟨#[47, 118]⟩ ++ tx (decL m))] w fun e w' => e = .returned (.tuple #[.string s, .string (⟨#[47, 118]⟩ ++ tx (decL m)), .bool true]) ∧ Below w.heap.size w w' := by
  have e1 : (s ++ ⟨#[47, 118]⟩ ++ tx (decL m) : ByteArray).data.toList = s.data.toList ++ [47, 118] ++ decL m := by simp [ByteArray.data_append, tx]
  have hl := decL_le m 9 (by omega) (by omega)
  refine (ispv _ (by rw [← size_len, e1]; simp; omega) (by rw [e1]; simpa using gop_ver hg (118 :: decL m)) w).mono ?_
  rintro e w' ⟨⟨i, hi, rfl⟩, hb⟩
  rw [e1] at hi
  refine ⟨?_, hb⟩
  rw [e1, ver_num hm hi]
  unfold trip
  rw [tx_of, show ([47, 118] ++ decL m : Bs) = (⟨#[47, 118]⟩ ++ tx (decL m) : ByteArray).data.toList from by simp [ByteArray.data_append, tx], tx_of]
theorem at_one (s : ByteArray) (h : s.size ≤ 500) (hg : ¬ (8 ≤ s.data.toList.length ∧ s.data.toList.take 8 = [103, 111, 112, 107, 103, 46, 105, 110])) (w : World) :
    Calls Try.prog 15 #[.string (s ++ ⟨#[47, 118, 49]⟩)] w fun e w' => e = .returned (.tuple #[.string (s ++ ⟨#[47, 118, 49]⟩), .string ⟨#[]⟩, .bool false]) ∧ Below w.heap.size w w' := by
  have e1 : (s ++ ⟨#[47, 118, 49]⟩ : ByteArray).data.toList = s.data.toList ++ [47, 118] ++ [49] := by simp [ByteArray.data_append]
  refine (ispv _ (by rw [← size_len, e1]; simp; omega) (by rw [e1]; simpa using gop_ver hg (118 :: [49])) w).mono ?_
  rintro e w' ⟨⟨i, hi, rfl⟩, hb⟩
  rw [e1] at hi
  refine ⟨?_, hb⟩
  rw [e1, ver_one hi]
  unfold trip
  rw [← e1, tx_of]
  rfl
theorem at_dots (s : ByteArray) (h : s.size ≤ 500) (hg : ¬ (8 ≤ s.data.toList.length ∧ s.data.toList.take 8 = [103, 111, 112, 107, 103, 46, 105, 110])) (w : World) :
    Calls Try.prog 15 #[.string (s ++ ⟨#[47, 118, 49, 46, 50]⟩)] w fun e w' => e = .returned (.tuple #[.string (s ++ ⟨#[47, 118, 49, 46, 50]⟩), .string ⟨#[]⟩, .bool false]) ∧ Below w.heap.size w w' := by
  have e1 : (s ++ ⟨#[47, 118, 49, 46, 50]⟩ : ByteArray).data.toList = s.data.toList ++ [47, 118] ++ [49, 46, 50] := by simp [ByteArray.data_append]
  refine (ispv _ (by rw [← size_len, e1]; simp; omega) (by rw [e1]; simpa using gop_ver hg (118 :: [49, 46, 50])) w).mono ?_
  rintro e w' ⟨⟨i, hi, rfl⟩, hb⟩
  rw [e1] at hi
  refine ⟨?_, hb⟩
  rw [e1, ver_dots hi]
  unfold trip
  rw [← e1, tx_of]
  rfl

theorem str_self (a : ByteArray) : (a.toList == a.toList) = true := by simp

set_option maxHeartbeats 2000000 in
theorem walk (s : ByteArray) (n : Int) (w0 : s.size ≤ maxLen) (w1 : (Lit.int .u16 n).wf = true) (w : World) :
    Calls Try.prog 5 #[.string s, .int .u16 n] w fun e w' => e = .returned (.bool true) ∧ Below w.heap.size w w' := by
  have hn : 0 ≤ n ∧ n ≤ 65535 := by simpa [Lit.wf, IntKind.min, IntKind.max, IntKind.signed, IntKind.bits] using w1
  obtain ⟨hn0, hn1⟩ := hn
  clear w1
  have hb0 := Lib.hid (Below.refl w.heap.size w)
  by_cases h0 : s.size ≤ 2147483647
  · have hs : s.size ≤ 4294967296 := by omega
    by_cases h5 : s.size ≤ 500
    · have L : Hid (∀ wx, Calls Try.prog 13 #[.string s] wx fun e w' => e = .returned (.bool false) ∧ wx = w') := Lib.hid (fun wx => by
        have := long_any s wx w0
        rw [decide_eq_false (by omega)] at this; exact this)
      clear w0
      go_enter Try.func5, Try.ntmps5
      go_wp2_with (go_at_call 13; refine (L.out _).mono ?_; rintro e w' ⟨rfl, rfl⟩)
      refine (Path_any s w hs).mono ?_
      rintro e w1 ⟨⟨p, rfl, _⟩, hb1⟩
      have HB1 := Lib.hid hb1
      clear hb1
      by_cases h1 : p = 1
      · subst h1
        have key : (8 ≤ s.size ∧ ((s.extract 0 8).toList == [103, 111, 112, 107, 103, 46, 105, 110]) = true) ∨ (s.size < 8 ∧ ¬ (8 ≤ s.data.toList.length ∧ s.data.toList.take 8 = [103, 111, 112, 107, 103, 46, 105, 110])) ∨
            ((8 ≤ s.size ∧ ((s.extract 0 8).toList == [103, 111, 112, 107, 103, 46, 105, 110]) = false) ∧ ¬ (8 ≤ s.data.toList.length ∧ s.data.toList.take 8 = [103, 111, 112, 107, 103, 46, 105, 110])) := by
          by_cases h8 : 8 ≤ s.size
          · rcases bool_two' ((s.extract 0 8).toList == [103, 111, 112, 107, 103, 46, 105, 110]) with h | h
            · exact .inl ⟨h8, h⟩
            · exact .inr (.inr ⟨⟨h8, h⟩, fun ⟨_, e⟩ => take_ne s 8 _ h e⟩)
          · exact .inr (.inl ⟨by omega, fun ⟨e, _⟩ => h8 (by rw [size_len] at e; exact e)⟩)
        rcases key with ⟨h8, he⟩ | ⟨h8, hg⟩ | ⟨⟨h8, he⟩, hg⟩
        · go_wp2
          go_ret
          exact ⟨rfl, HB1.out⟩
        all_goals
          have A1 := Lib.hid (at_num s h5 hg (n.toNat + 2) (by omega) (by omega))
          have A2 := Lib.hid (at_one s h5 hg)
          have A3 := Lib.hid (at_dots s h5 hg)
          have NM : Hid (∀ wx, Calls Try.prog 17 #[.int .i64 (n + 2)] wx fun e w' => e = .returned (.string (tx (decL (n.toNat + 2)))) ∧ Below wx.heap.size wx w') := Lib.hid (fun wx => by
            have := number_any (n.toNat + 2) wx (by omega)
            rw [show (((n.toNat + 2 : Nat)) : Int) = n + 2 from by omega] at this; exact this)
          have hdl : (decL (n.toNat + 2)).length ≤ 9 := decL_le _ 9 (by omega) (by omega)
          generalize decL (n.toNat + 2) = D at *
          have S1 := str_self s
          clear hg
          go_wp2_with fail
          refine (NM.out _).mono ?_
          rintro e w2 ⟨rfl, hb2⟩
          have HB2 := Lib.hid (below_tr HB1.out hb2)
          clear hb2
          go_wp2_with fail
          refine (A1.out _).mono ?_
          rintro e w3 ⟨rfl, hb3⟩
          have HB3 := Lib.hid (below_tr HB2.out hb3)
          clear hb3
          go_wp2_with fail
          refine (A2.out _).mono ?_
          rintro e w4 ⟨rfl, hb4⟩
          have HB4 := Lib.hid (below_tr HB3.out hb4)
          clear hb4
          go_wp2_with fail
          refine (A3.out _).mono ?_
          rintro e w5 ⟨rfl, hb5⟩
          have HB5 := Lib.hid (below_tr HB4.out hb5)
          clear hb5
          go_wp2_with fail
          refine (NM.out _).mono ?_
          rintro e w6 ⟨rfl, hb6⟩
          have HB6 := Lib.hid (below_tr HB5.out hb6)
          clear hb6
          have S2 := str_self (⟨#[47, 118]⟩ ++ tx D)
          go_wp2
          go_ret
          exact ⟨rfl, HB6.out⟩
      · have e1 : (p != 1) = true := by simpa using h1
        clear h1
        go_wp2
        go_ret
        exact ⟨rfl, HB1.out⟩
    · have L : Hid (∀ wx, Calls Try.prog 13 #[.string s] wx fun e w' => e = .returned (.bool true) ∧ wx = w') := Lib.hid (fun wx => by
        have := long_any s wx w0
        rw [decide_eq_true (by omega)] at this; exact this)
      clear w0 h5
      go_enter Try.func5, Try.ntmps5
      go_wp2_with (go_at_call 13; refine (L.out _).mono ?_; rintro e w' ⟨rfl, rfl⟩)
      go_ret
      exact ⟨rfl, hb0.out⟩
  · unfold maxLen at w0
    go_enter Try.func5, Try.ntmps5
    go_wp2
    go_ret
    exact ⟨rfl, hb0.out⟩

set_option maxRecDepth 100000 in
theorem lifted (os : Os) (started : os.Started) (H : Type) (enc : TypeId × Value → H) :
    ReturnsInHanded {} Try.checked os 5 .any (Rows.fnSplitJoinSpec.pre6 enc Try.prog Try.f5 Rows.fnSplitJoinRow.domain false) (Rows.fnSplitJoinSpec.post enc Try.prog Try.f5 false true false false) := by
  refine returnsInHanded_of_change (C := Try.checked) own started (by kernel_rfl) Try.func5
    (ChangeSpec.witness6 (enc := enc) (C := Try.checked) false ⟨#[], #[.string ByteArray.empty, .int .u16 0], []⟩ 8 (by kernel_rfl) (by kernel_rfl) (by kernel_rfl) (by kernel_rfl)) ?_
  intro W base args ds gs before hval0 hW hcnd _
  have hval : ∀ (j : Nat) t v, Try.f5.params[j]? = some t → args[j]? = some v → Value.okWide Try.prog W .any base t v := hval0
  have hW' := hW
  obtain ⟨p, q, hA0, hV, rfl, hfz, hnd⟩ := hW
  have hA : DataW.TrodAll enc Try.prog W 0 (fun _ => true) true Try.f5.params.toList args.toList ds p := hA0
  rw [Try.params5] at hA hval
  obtain ⟨v0, vs0, d0, ds0, p0, q0, hargs, rfl, rfl, h0, r0⟩ := trodAll_cons hA
  obtain ⟨v1, vs1, d1, ds1, p1, q1, rfl, rfl, rfl, h1, r1⟩ := trodAll_cons r0
  obtain ⟨rfl, rfl, rfl⟩ := trodAll_nil r1
  obtain rfl : args = #[v0, v1] := by cases args; simp_all
  obtain ⟨rfl, rfl⟩ := trodVars_none hV
  obtain ⟨a0, rfl, rfl, rfl, w0⟩ := open_string Try.underlying9 (hval 0 9 v0 rfl rfl) h0
  obtain ⟨a1, rfl, rfl, rfl, w1⟩ := open_int Try.underlying32 (hval 1 32 v1 rfl rfl) h1
  clear hA0 hval0
  simp only [List.append_nil] at hW'
  refine (walk a0 a1 w0 w1 W).mono fun e W' ⟨he, hb⟩ => ?_
  subst he
  exact ⟨_, rfl, law_post (pa := []) (pv := []) hW' (trodAll_cons_mk (shut_bool Try.underlying4 _) trodAll_mk0) (trodAll_cons_mk (shut_string Try.underlying9 w0) (trodAll_cons_mk (shut_int Try.underlying32 w1) trodAll_mk0)) rfl hb⟩

theorem over : Rows.fnSplitJoinRow.holds Try.pinned (OpenSpec.ofChange Rows.fnSplitJoinSpec) :=
  OpenClaim.holds_of_wide 5 Try.f5 rfl rfl rfl rfl rfl rfl rfl ⟨rfl, rfl, rfl, rfl, rfl⟩ rfl rfl rfl rfl rfl (by kernel_rfl) Try.func5 (by kernel_rfl)
    (of_decide_eq_true (by kernel_rfl)) (by unfold Func.isWrapper; first | (rw [if_pos (by decide +kernel)]; kernel_rfl) | (rw [if_neg (by decide +kernel)]; exact ⟨rfl, rfl⟩))
    (fun os started H enc _ => lifted os started H enc)

theorem proved : Rows.FnSplitJoinSaid :=
  over
end Go.Proofs.Ytdinaphcglmhoaa.fnSplitJoin
