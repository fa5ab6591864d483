/-
  PROVED: laws.FnCanonicalTwice returns true for every text: the canonical form is its own canonical form, and compares alike with the text. No condition.
  The frame of this text is a shell that the kit's proof-skeleton wrote.
-/
import Derived.Test.YtdinaphcglmhoaaRows
import Derived.Test.YtdinaphcglmhoaaSpecCan
import Derived.Test.YtdinaphcglmhoaaTwice
import Derived.Test.YtdinaphcglmhoaaLong
import Derived.ProofKit
import Derived.OpenShut
import Derived.ShutString
namespace Go.Proofs.Ytdinaphcglmhoaa.fnCanonicalTwice
open Go.ChangeShapes Go.WideShapes Go.ChangeAt Go.RowKit
open Go.ChangeMaps (open_string shut_string)
set_option linter.unusedVariables false

theorem own : ownKnob Try.prog.godebug = none := by kernel_rfl

theorem eq_self (s : ByteArray) : (s.toList == s.toList) = true := by simp

set_option maxHeartbeats 1000000 in
theorem walk (s : ByteArray) (w0 : s.size ≤ maxLen) (w : World) :
    Calls Try.prog 7 #[.string s] w fun e w' => e = .returned (.bool true) ∧ Below w.heap.size w w' := by
  have hb0 := Lib.hid (Below.refl w.heap.size w)
  by_cases h0 : s.size ≤ 2147483647
  · have hs : s.size ≤ 4294967296 := by omega
    by_cases h5 : s.size ≤ 500
    · have L : Hid (∀ wx, Calls Try.prog 13 #[.string s] wx fun e w' => e = .returned (.bool false) ∧ wx = w') := Lib.hid (fun wx => by
        have := long_any s wx w0
        rw [decide_eq_false (by omega)] at this; exact this)
      have I := Lib.hid (fun wx => implcan_any s wx hs)
      have S := fun wx => speccan_any s wx hs
      rw [specCan_eq] at S
      have S' := Lib.hid S
      have hV : (tx (modCan s.data.toList)).size ≤ 4294967296 := by
        rw [tx_size]; have := modCan_len s.data.toList; rw [size_len] at this; omega
      have J := fun wx => implcan_any (tx (modCan s.data.toList)) wx hV
      rw [tx_data, modCan_idem] at J
      have J' := Lib.hid J
      have C := Lib.hid (fun wx => compare_same (tx (modCan s.data.toList)) s wx hV hs (by rw [tx_data]; exact modCan_read _))
      have E2 := eq_self (tx (modCan s.data.toList))
      clear w0 h5 S J
      generalize tx (modCan s.data.toList) = V at *
      go_enter Try.func7, Try.ntmps7
      go_wp2_with (go_at_call 13; refine (L.out _).mono ?_; rintro e w' ⟨rfl, rfl⟩)
      refine (I.out _).mono ?_
      rintro e w1 ⟨rfl, hb1⟩
      go_wp2_with fail
      refine (S'.out _).mono ?_
      rintro e w2 ⟨rfl, hb2⟩
      have HB := Lib.hid (below_tr hb1 hb2)
      clear hb1 hb2
      go_wp2_with fail
      refine (J'.out _).mono ?_
      rintro e w3 ⟨rfl, hb3⟩
      have HB3 := Lib.hid (below_tr HB.out hb3)
      clear hb3
      go_wp2_with fail
      refine (C.out _).mono ?_
      rintro e w4 ⟨rfl, hb4⟩
      have HB4 := Lib.hid (below_tr HB3.out hb4)
      clear hb4
      go_wp2
      go_ret
      exact ⟨rfl, HB4.out⟩
    · have L : Hid (∀ wx, Calls Try.prog 13 #[.string s] wx fun e w' => e = .returned (.bool true) ∧ wx = w') := Lib.hid (fun wx => by
        have := long_any s wx w0
        rw [decide_eq_true (by omega)] at this; exact this)
      clear w0 h5
      go_enter Try.func7, Try.ntmps7
      go_wp2_with (go_at_call 13; refine (L.out _).mono ?_; rintro e w' ⟨rfl, rfl⟩)
      go_ret
      exact ⟨rfl, hb0.out⟩
  · unfold maxLen at w0
    go_enter Try.func7, Try.ntmps7
    go_wp2
    go_ret
    exact ⟨rfl, hb0.out⟩

set_option maxRecDepth 100000 in
theorem lifted (os : Os) (started : os.Started) (H : Type) (enc : TypeId × Value → H) :
    ReturnsInHanded {} Try.checked os 7 .any (Rows.fnCanonicalTwiceSpec.pre6 enc Try.prog Try.f7 Rows.fnCanonicalTwiceRow.domain false) (Rows.fnCanonicalTwiceSpec.post enc Try.prog Try.f7 false true false false) := by
  refine returnsInHanded_of_change (C := Try.checked) own started (by kernel_rfl) Try.func7
    (ChangeSpec.witness6 (enc := enc) (C := Try.checked) false ⟨#[], #[.string ByteArray.empty], []⟩ 8 (by kernel_rfl) (by kernel_rfl) (by kernel_rfl) (by kernel_rfl)) ?_
  intro W base args ds gs before hval0 hW hcnd _
  have hval : ∀ (j : Nat) t v, Try.f7.params[j]? = some t → args[j]? = some v → Value.okWide Try.prog W .any base t v := hval0
  have hW' := hW
  obtain ⟨p, q, hA0, hV, rfl, hfz, hnd⟩ := hW
  have hA : DataW.TrodAll enc Try.prog W 0 (fun _ => true) true Try.f7.params.toList args.toList ds p := hA0
  rw [Try.params7] at hA hval
  obtain ⟨v0, vs0, d0, ds0, p0, q0, hargs, rfl, rfl, h0, r0⟩ := trodAll_cons hA
  obtain ⟨rfl, rfl, rfl⟩ := trodAll_nil r0
  obtain rfl : args = #[v0] := by cases args; simp_all
  obtain ⟨rfl, rfl⟩ := trodVars_none hV
  obtain ⟨a0, rfl, rfl, rfl, w0⟩ := open_string Try.underlying9 (hval 0 9 v0 rfl rfl) h0
  clear hA0 hval0
  simp only [List.append_nil] at hW'
  refine (walk a0 w0 W).mono fun e W' ⟨he, hb⟩ => ?_
  subst he
  exact ⟨_, rfl, law_post (pa := []) (pv := []) hW' (trodAll_cons_mk (shut_bool Try.underlying4 _) trodAll_mk0) (trodAll_cons_mk (shut_string Try.underlying9 w0) trodAll_mk0) rfl hb⟩

theorem over : Rows.fnCanonicalTwiceRow.holds Try.pinned (OpenSpec.ofChange Rows.fnCanonicalTwiceSpec) :=
  OpenClaim.holds_of_wide 7 Try.f7 rfl rfl rfl rfl rfl rfl rfl ⟨rfl, rfl, rfl, rfl, rfl⟩ rfl rfl rfl rfl rfl (by kernel_rfl) Try.func7 (by kernel_rfl)
    (of_decide_eq_true (by kernel_rfl)) (by unfold Func.isWrapper; first | (rw [if_pos (by decide +kernel)]; kernel_rfl) | (rw [if_neg (by decide +kernel)]; exact ⟨rfl, rfl⟩))
    (fun os started H enc _ => lifted os started H enc)

theorem proved : Rows.FnCanonicalTwiceSaid :=
  over
end Go.Proofs.Ytdinaphcglmhoaa.fnCanonicalTwice
