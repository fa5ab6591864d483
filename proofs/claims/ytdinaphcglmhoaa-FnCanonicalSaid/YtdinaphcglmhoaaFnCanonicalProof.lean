/-
  PROVED: laws.FnCanonical returns true for every text: CanonicalVersion answers as the reference's canonical form does. No condition.
  The frame of this text is a shell that the kit's proof-skeleton wrote.
-/
import Derived.Test.YtdinaphcglmhoaaRows
import Derived.Test.YtdinaphcglmhoaaSpecCan
import Derived.Test.YtdinaphcglmhoaaLong
import Derived.ProofKit
import Derived.OpenShut
import Derived.ShutString
namespace Go.Proofs.Ytdinaphcglmhoaa.fnCanonical
open Go.ChangeShapes Go.WideShapes Go.ChangeAt Go.RowKit
open Go.ChangeMaps (open_string shut_string)
set_option linter.unusedVariables false

theorem own : ownKnob Try.prog.godebug = none := by kernel_rfl

theorem eq_self (l : Bs) : ((tx l).toList == (tx l).toList) = true := by simp

set_option maxHeartbeats 1000000 in
theorem walk (s : ByteArray) (w0 : s.size ≤ maxLen) (w : World) :
    Calls Try.prog 6 #[.string s] w fun e w' => e = .returned (.bool true) ∧ Below w.heap.size w w' := by
  have hb0 := Lib.hid (Below.refl w.heap.size w)
  by_cases h0 : s.size ≤ 2147483647
  · have hs : s.size ≤ 4294967296 := by omega
    by_cases h5 : s.size ≤ 500
    · have L : Hid (∀ wx, Calls Try.prog 13 #[.string s] wx fun e w' => e = .returned (.bool false) ∧ wx = w') := Lib.hid (fun wx => by
        have := long_any s wx w0
        rw [decide_eq_false (by omega)] at this; exact this)
      have I := Lib.hid (fun wx => implcan_any s wx hs)
      have S := fun wx => speccan_any s wx hs
      rw [specCan_eq] at S
      have S' := Lib.hid S
      have E2 := eq_self (modCan s.data.toList)
      clear w0 h5 S
      go_enter Try.func6, Try.ntmps6
      go_wp2_with (go_at_call 13; refine (L.out _).mono ?_; rintro e w' ⟨rfl, rfl⟩)
      refine (I.out _).mono ?_
      rintro e w1 ⟨rfl, hb1⟩
      go_wp2_with fail
      refine (S'.out _).mono ?_
      rintro e w2 ⟨rfl, hb2⟩
      have HB := Lib.hid (below_tr hb1 hb2)
      clear hb1 hb2
      generalize tx (modCan s.data.toList) = V at *
      go_wp2
      go_ret
      exact ⟨rfl, HB.out⟩
    · have L : Hid (∀ wx, Calls Try.prog 13 #[.string s] wx fun e w' => e = .returned (.bool true) ∧ wx = w') := Lib.hid (fun wx => by
        have := long_any s wx w0
        rw [decide_eq_true (by omega)] at this; exact this)
      clear w0 h5
      go_enter Try.func6, Try.ntmps6
      go_wp2_with (go_at_call 13; refine (L.out _).mono ?_; rintro e w' ⟨rfl, rfl⟩)
      go_ret
      exact ⟨rfl, hb0.out⟩
  · unfold maxLen at w0
    go_enter Try.func6, Try.ntmps6
    go_wp2
    go_ret
    exact ⟨rfl, hb0.out⟩

set_option maxRecDepth 100000 in
theorem lifted (os : Os) (started : os.Started) (H : Type) (enc : TypeId × Value → H) :
    ReturnsInHanded {} Try.checked os 6 .any (Rows.fnCanonicalSpec.pre6 enc Try.prog Try.f6 Rows.fnCanonicalRow.domain false) (Rows.fnCanonicalSpec.post enc Try.prog Try.f6 false true false false) := by
  refine returnsInHanded_of_change (C := Try.checked) own started (by kernel_rfl) Try.func6
    (ChangeSpec.witness6 (enc := enc) (C := Try.checked) false ⟨#[], #[.string ByteArray.empty], []⟩ 8 (by kernel_rfl) (by kernel_rfl) (by kernel_rfl) (by kernel_rfl)) ?_
  intro W base args ds gs before hval0 hW hcnd _
  have hval : ∀ (j : Nat) t v, Try.f6.params[j]? = some t → args[j]? = some v → Value.okWide Try.prog W .any base t v := hval0
  have hW' := hW
  obtain ⟨p, q, hA0, hV, rfl, hfz, hnd⟩ := hW
  have hA : DataW.TrodAll enc Try.prog W 0 (fun _ => true) true Try.f6.params.toList args.toList ds p := hA0
  rw [Try.params6] at hA hval
  obtain ⟨v0, vs0, d0, ds0, p0, q0, hargs, rfl, rfl, h0, r0⟩ := trodAll_cons hA
  obtain ⟨rfl, rfl, rfl⟩ := trodAll_nil r0
  obtain rfl : args = #[v0] := by cases args; simp_all
  obtain ⟨rfl, rfl⟩ := trodVars_none hV
  obtain ⟨a0, rfl, rfl, rfl, w0⟩ := open_string Try.underlying9 (hval 0 9 v0 rfl rfl) h0
  clear hA0 hval0
  simp only [List.append_nil] at hW'
  refine (walk a0 w0 W).mono fun e W' ⟨he, hb⟩ => ?_
  subst he
  exact ⟨_, rfl, law_post (pa := []) (pv := []) hW' (trodAll_cons_mk (shut_bool Try.underlying4 _) trodAll_mk0) (trodAll_cons_mk (shut_string Try.underlying9 w0) trodAll_mk0) rfl hb⟩

theorem over : Rows.fnCanonicalRow.holds Try.pinned (OpenSpec.ofChange Rows.fnCanonicalSpec) :=
  OpenClaim.holds_of_wide 6 Try.f6 rfl rfl rfl rfl rfl rfl rfl ⟨rfl, rfl, rfl, rfl, rfl⟩ rfl rfl rfl rfl rfl (by kernel_rfl) Try.func6 (by kernel_rfl)
    (of_decide_eq_true (by kernel_rfl)) (by unfold Func.isWrapper; first | (rw [if_pos (by decide +kernel)]; kernel_rfl) | (rw [if_neg (by decide +kernel)]; exact ⟨rfl, rfl⟩))
    (fun os started H enc _ => lifted os started H enc)

theorem proved : Rows.FnCanonicalSaid :=
  over
end Go.Proofs.Ytdinaphcglmhoaa.fnCanonical
