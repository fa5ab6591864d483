/-
  PROVED: laws.FnSortTwice returns true for every list of versions and every turn: a list of versions without a stroke, no two of one path alike, is sorted to the same list whatever order it had. No condition.
  The frame of this text is a shell that the kit's proof-skeleton wrote.
-/
import Derived.Test.YtdinaphcglmhoaaRows
import Derived.Test.YtdinaphcglmhoaaOpenL
import Derived.Test.YtdinaphcglmhoaaFtN
import Derived.Test.YtdinaphcglmhoaaFrame
import Derived.Carry
import Derived.ProofKit
import Derived.OpenShut
namespace Go.Proofs.Ytdinaphcglmhoaa.fnSortTwice
open Go.ChangeShapes Go.WideShapes Go.ChangeAt Go.RowKit
set_option linter.unusedVariables false

theorem own : ownKnob Try.prog.godebug = none := by kernel_rfl
theorem laidOut : laidOutB Try.prog = true := by kernel_rfl

set_option maxRecDepth 100000 in
theorem lifted (os : Os) (started : os.Started) (H : Type) (enc : TypeId × Value → H) :
    ReturnsInHanded {} Try.checked os 11 .any (Rows.fnSortTwiceSpec.pre6 enc Try.prog Try.f11 Rows.fnSortTwiceRow.domain false) (Rows.fnSortTwiceSpec.post enc Try.prog Try.f11 false true false false) := by
  refine returnsInHanded_of_change (C := Try.checked) own started (by kernel_rfl) Try.func11
    (ChangeSpec.witness6 (enc := enc) (C := Try.checked) false ⟨#[], #[.slice none 0 0, .int .u8 0], []⟩ 8 (by kernel_rfl) (by kernel_rfl) (by kernel_rfl) (by kernel_rfl)) ?_
  intro W base args ds gs before hval0 hW hcnd _
  have hval : ∀ (j : Nat) t v, Try.f11.params[j]? = some t → args[j]? = some v → Value.okWide Try.prog W .any base t v := hval0
  have hW' := hW
  obtain ⟨p, q, hA0, hV, rfl, hfz, hnd⟩ := hW
  have hA : DataW.TrodAll enc Try.prog W 0 (fun _ => true) true Try.f11.params.toList args.toList ds p := hA0
  rw [Try.params11] at hA hval
  obtain ⟨v0, vs0, d0, ds0, p0, q0, hargs, rfl, rfl, h0, r0⟩ := trodAll_cons hA
  obtain ⟨v1, vs1, d1, ds1, p1, q1, rfl, rfl, rfl, h1, r1⟩ := trodAll_cons r0
  obtain ⟨rfl, rfl, rfl⟩ := trodAll_nil r1
  obtain rfl : args = #[v0, v1] := by cases args; simp_all
  obtain ⟨rfl, rfl⟩ := trodVars_none hV
  obtain ⟨t1, rfl, rfl, rfl, w1⟩ := open_int Try.underlying5 (hval 1 5 v1 rfl rfl) h1
  clear hA0 hval0
  simp only [List.append_nil] at hW'
  have hlt : ∀ x ∈ p0, x.block < W.heap.size := fun x hx => by simpa using hW'.lt x (by simpa using hx)
  have hargs0 : ∀ (W' : World), Below W.heap.size W W' → DataW.Trod enc Try.prog W' 0 (fun b => decide (b < W.heap.size)) true 38 v0 d0 p0 :=
    fun W' hn => Below.trod laidOut (by kernel_rfl) (of_decide_eq_true (by kernel_rfl)) h0 hn hlt
  have fin : ∀ e W', (e = Ending.returned (.bool true) ∧ Below W.heap.size W W') → ∃ v, e = Ending.returned v ∧ Rows.fnSortTwiceSpec.post enc Try.checked.prog Try.f11 false true false false W #[v0, .int .u8 t1] v W' := fun e W' ⟨he, hb⟩ => by
    subst he
    exact ⟨_, rfl, law_post (pv := []) hW' (trodAll_cons_mk (shut_bool Try.underlying4 _) trodAll_mk0) (trodAll_cons_mk (hargs0 _ hb) (trodAll_cons_mk (shut_int Try.underlying5 w1) trodAll_mk0)) rfl hb⟩
  rcases open_pairs (hval 0 38 v0 rfl rfl) h0 with ⟨a, cap, rfl⟩ | ⟨b, o, cap, l, rfl, hne, hl, hin, hs⟩
  · exact (fnTwice_nil a cap t1 W).mono fin
  · exact (fnTwice_some l b o cap t1 W hin hl hs hne (u8_of w1)).mono fin

theorem over : Rows.fnSortTwiceRow.holds Try.pinned (OpenSpec.ofChange Rows.fnSortTwiceSpec) :=
  OpenClaim.holds_of_wide 11 Try.f11 rfl rfl rfl rfl rfl rfl rfl ⟨rfl, rfl, rfl, rfl, rfl⟩ rfl rfl rfl rfl rfl (by kernel_rfl) Try.func11 (by kernel_rfl)
    (of_decide_eq_true (by kernel_rfl)) (by unfold Func.isWrapper; first | (rw [if_pos (by decide +kernel)]; kernel_rfl) | (rw [if_neg (by decide +kernel)]; exact ⟨rfl, rfl⟩))
    (fun os started H enc _ => lifted os started H enc)

theorem proved : Rows.FnSortTwiceSaid :=
  over
end Go.Proofs.Ytdinaphcglmhoaa.fnSortTwice
