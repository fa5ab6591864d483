/-
  PROVED: laws.FnMajor returns true for every version and every ending of a path: MatchPathMajor says what CheckPathMajor says, and that is what the reference says where it says something. No condition. fmt's text is told by the kit's function; the proof uses only that some error comes back.
-/
import Derived.Test.YtdinaphcglmhoaaFmtRows
import Derived.Test.YtdinaphcglmhoaaFmtCards
import Derived.Test.YtdinaphcglmhoaaFmtCpm2
import Derived.Test.YtdinaphcglmhoaaFmtSpecMaj
import Derived.Test.YtdinaphcglmhoaaFmtLong
import Derived.ProofKit
import Derived.OpenShut
import Derived.ShutString
import Derived.Stop.JoinedAt
import Derived.Stop.Texts
import Derived.Stop.JoinedTold
import Derived.SevenToldRow
namespace Go.Proofs.YtdinaphcglmhoaaFmt.fnMajor
open Go.ChangeShapes Go.WideShapes Go.ChangeAt Go.RowKit Go.Kit
open Go.ChangeMaps (open_string shut_string)
open Go.Extern.Stop Go.Stop Go.Extern
set_option linter.unusedVariables false

theorem own : ownKnob Tryf.prog.godebug = none := by kernel_rfl

set_option maxHeartbeats 2000000 in
theorem walk (F : Interp) (s m : ByteArray) (w0 : s.size ≤ maxLen) (w1 : m.size ≤ maxLen) (w : World) (hF : F.answers w.tape) :
    Calls Tryf.prog 3 #[.string s, .string m] w fun e w' => e = .returned (.bool true) ∧ Below w.heap.size w w' := by
  have hb0 := Lib.hid (Below.refl w.heap.size w)
  have HF := Lib.hid hF
  clear hF
  have L0 := fun wx => long_any s wx w0
  have L1 := fun wx => long_any m wx w1
  unfold maxLen at w0 w1
  by_cases h0 : s.size ≤ 2147483647
  · by_cases h1 : m.size ≤ 2147483647
    · by_cases h5 : s.size ≤ 500
      · have K0 : Hid (∀ wx, Calls Tryf.prog 4 #[.string s] wx fun e w' => e = .returned (.bool false) ∧ wx = w') := Lib.hid (fun wx => by
          have := L0 wx
          rw [decide_eq_false (by omega)] at this; exact this)
        by_cases h6 : m.size ≤ 500
        · have K1 : Hid (∀ wx, Calls Tryf.prog 4 #[.string m] wx fun e w' => e = .returned (.bool false) ∧ wx = w') := Lib.hid (fun wx => by
            have := L1 wx
            rw [decide_eq_false (by omega)] at this; exact this)
          have hs : s.size ≤ 4294967296 := by omega
          have hm : m.size ≤ 4294967296 := by omega
          have C := Lib.hid (fun wx (h : F.answers wx.tape) => implcpm_any F s m wx h hs hm)
          have D := Lib.hid (fun wx (h : F.answers wx.tape) => matchpm_any F s m wx h hs hm)
          have S := Lib.hid (fun wx => specmaj_any s m wx hs hm)
          have T := Lib.hid (major_told s.data.toList m.data.toList)
          generalize cpmB s.data.toList m.data.toList = cb at *
          generalize majS s.data.toList m.data.toList = ms at *
          have TT := Lib.hid (fun wx => told_any cb ms wx T.out)
          clear L0 L1 h5 h6
          have ecb : (cb == cb) = true := by simp
          go_enter Tryf.func3, Tryf.ntmps3
          go_wp2_with fail
          refine (K0.out _).mono ?_
          rintro e w' ⟨rfl, rfl⟩
          go_wp2_with fail
          refine (K1.out _).mono ?_
          rintro e w' ⟨rfl, rfl⟩
          go_wp2_with fail
          refine (C.out _ HF.out).mono ?_
          rintro e w1 ⟨rfl, hb1⟩
          have HF1 := Lib.hid (show F.answers w1.tape by rw [hb1.tape]; exact HF.out)
          have HB1 := Lib.hid hb1
          clear hb1
          go_wp2_with fail
          refine (D.out _ HF1.out).mono ?_
          rintro e w2 ⟨rfl, hb2⟩
          have HB2 := Lib.hid (below_tr HB1.out hb2)
          clear hb2
          go_wp2_with fail
          refine (S.out _).mono ?_
          rintro e w3 ⟨rfl, hb3⟩
          have HB3 := Lib.hid (below_tr HB2.out hb3)
          clear hb3
          go_wp2_with fail
          refine (TT.out _).mono ?_
          rintro e w' ⟨rfl, rfl⟩
          go_wp2
          go_ret
          exact ⟨rfl, HB3.out⟩
        · have K1 : Hid (∀ wx, Calls Tryf.prog 4 #[.string m] wx fun e w' => e = .returned (.bool true) ∧ wx = w') := Lib.hid (fun wx => by
            have := L1 wx
            rw [decide_eq_true (by omega)] at this; exact this)
          clear L0 L1 h5 h6
          go_enter Tryf.func3, Tryf.ntmps3
          go_wp2_with fail
          refine (K0.out _).mono ?_
          rintro e w' ⟨rfl, rfl⟩
          go_wp2_with fail
          refine (K1.out _).mono ?_
          rintro e w' ⟨rfl, rfl⟩
          go_wp2
          go_ret
          exact ⟨rfl, hb0.out⟩
      · have K0 : Hid (∀ wx, Calls Tryf.prog 4 #[.string s] wx fun e w' => e = .returned (.bool true) ∧ wx = w') := Lib.hid (fun wx => by
          have := L0 wx
          rw [decide_eq_true (by omega)] at this; exact this)
        clear L0 L1 h5
        go_enter Tryf.func3, Tryf.ntmps3
        go_wp2_with fail
        refine (K0.out _).mono ?_
        rintro e w' ⟨rfl, rfl⟩
        go_wp2
        go_ret
        exact ⟨rfl, hb0.out⟩
    · clear L0 L1
      go_enter Tryf.func3, Tryf.ntmps3
      go_wp2
      go_ret
      exact ⟨rfl, hb0.out⟩
  · clear L0 L1
    go_enter Tryf.func3, Tryf.ntmps3
    go_wp2
    go_ret
    exact ⟨rfl, hb0.out⟩

set_option maxRecDepth 100000 in
theorem lifted (os : Os) (started : os.Started) (H : Type) (enc : TypeId × Value → H) :
    ReturnsInTold none {} Tryf.checked os 3 .any Input.okWide ((OpenSpec.ofChange Rows.fnMajorSpec).preRow enc Tryf.prog Tryf.f3 [] false []) (fun F => ((OpenSpec.ofChange Rows.fnMajorSpec).at F).post enc Tryf.prog Tryf.f3 false true false false) (aloneAtReturn Tryf.prog) nothingAlways := by
  refine returnsInTold_of_row (C := Tryf.checked) (s := OpenSpec.ofChange Rows.fnMajorSpec) (by kernel_rfl) own started (by kernel_rfl) Tryf.func3
    (OpenSpec.witness_stopped (enc := enc) (C := Tryf.checked) false ⟨#[], #[.string ByteArray.empty, .string ByteArray.empty], []⟩ 8 (by kernel_rfl) (by kernel_rfl) (by kernel_rfl) (by kernel_rfl)) ?_
  intro F W base args ds gs before _ hF hval0 hW _ _ _ _ _
  have hval : ∀ (j : Nat) t v, Tryf.f3.params[j]? = some t → args[j]? = some v → Value.okWide Tryf.prog W .any base t v := hval0
  have hW' := hW
  obtain ⟨p, q, hA0, hV, rfl, hfz, hnd⟩ := hW
  have hA : DataW.TrodAll enc Tryf.prog W 0 (fun _ => true) true Tryf.f3.params.toList args.toList ds p := hA0
  rw [Tryf.params3] at hA hval
  obtain ⟨v0, vs0, d0, ds0, p0, q0, hargs, rfl, rfl, h0, r0⟩ := trodAll_cons hA
  obtain ⟨v1, vs1, d1, ds1, p1, q1, rfl, rfl, rfl, h1, r1⟩ := trodAll_cons r0
  obtain ⟨rfl, rfl, rfl⟩ := trodAll_nil r1
  obtain rfl : args = #[v0, v1] := by cases args; simp_all
  obtain ⟨rfl, rfl⟩ := trodVars_none hV
  obtain ⟨a0, rfl, rfl, rfl, w0⟩ := open_string Tryf.underlying9 (hval 0 9 v0 rfl rfl) h0
  obtain ⟨a1, rfl, rfl, rfl, w1⟩ := open_string Tryf.underlying9 (hval 1 9 v1 rfl rfl) h1
  clear hA0 hval0
  simp only [List.append_nil] at hW'
  refine (walk F.told a0 a1 w0 w1 W hF).mono fun e W' ⟨he, hb⟩ => ?_
  subst he
  exact ⟨_, rfl, law_post (pa := []) (pv := []) hW' (trodAll_cons_mk (shut_bool Tryf.underlying4 _) trodAll_mk0) (trodAll_cons_mk (shut_string Tryf.underlying9 w0) (trodAll_cons_mk (shut_string Tryf.underlying9 w1) trodAll_mk0)) rfl hb⟩

theorem stops : Tryf.pinned.checked.prog.stops = ["fmt.errorf"] := by kernel_rfl
theorem stopKnobs : Tryf.pinned.checked.prog.stopKnobs = [] := by kernel_rfl
theorem quiet (os : Os) : Stop.quiet Tryf.pinned.checked.prog os := by
  intro k hk
  rw [stopKnobs] at hk
  cases hk

theorem proved : Rows.FnMajorToldSaid :=
  Claim7.holds_of_told_any 3 Tryf.f3 "fmt.errorf" [] [] _ _ _ (by kernel_rfl) rfl rfl rfl (by kernel_rfl) (by kernel_rfl) rfl ⟨rfl, rfl, rfl, rfl, rfl, rfl, rfl⟩ rfl rfl (by kernel_rfl) (by kernel_rfl) Tryf.func3 (by kernel_rfl)
    (of_decide_eq_true (by kernel_rfl)) (of_decide_eq_true (by kernel_rfl)) stops.symm rfl stopKnobs.symm (by kernel_rfl)
    (by kernel_rfl) (by kernel_rfl) (by kernel_rfl) (by kernel_rfl) (by kernel_rfl) (by kernel_rfl) (by kernel_rfl) (by kernel_rfl) (by kernel_rfl) rfl (by kernel_rfl) rfl rfl
    rfl rfl
    rfl (by kernel_rfl) (by kernel_rfl) (by kernel_rfl) (by decide) (by kernel_rfl)
    (OpenClaim.moreEntering_of (by kernel_rfl) (by kernel_rfl) (by kernel_rfl) (by kernel_rfl) (by kernel_rfl) (by kernel_rfl) (by kernel_rfl) (by kernel_rfl) (by kernel_rfl) (by kernel_rfl))
    ⟨_, WideRow.started_initial, quiet _⟩
    (fun os started _ H enc _ => lifted os started H enc)
end Go.Proofs.YtdinaphcglmhoaaFmt.fnMajor
