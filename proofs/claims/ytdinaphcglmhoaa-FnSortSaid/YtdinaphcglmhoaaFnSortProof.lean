/-
  PROVED: laws.FnSort returns true for every list of versions: the list is sorted by paths, then by versions without what stands behind a stroke, if no two versions of a path are equal and have other texts. No condition.
  The frame of this text is a shell that the kit's proof-skeleton wrote.
-/
import Derived.Test.YtdinaphcglmhoaaRows
import Derived.Test.YtdinaphcglmhoaaOpenL
import Derived.Test.YtdinaphcglmhoaaFsN
import Derived.Test.YtdinaphcglmhoaaFrame
import Derived.Carry
import Derived.ProofKit
import Derived.OpenShut
namespace Go.Proofs.Ytdinaphcglmhoaa.fnSort
open Go.ChangeShapes Go.WideShapes Go.ChangeAt Go.RowKit
set_option linter.unusedVariables false

theorem own : ownKnob Try.prog.godebug = none := by kernel_rfl
theorem laidOut : laidOutB Try.prog = true := by kernel_rfl

set_option maxRecDepth 100000 in
theorem lifted (os : Os) (started : os.Started) (H : Type) (enc : TypeId × Value → H) :
    ReturnsInHanded {} Try.checked os 9 .any (Rows.fnSortSpec.pre6 enc Try.prog Try.f9 Rows.fnSortRow.domain false) (Rows.fnSortSpec.post enc Try.prog Try.f9 false true false false) := by
  refine returnsInHanded_of_change (C := Try.checked) own started (by kernel_rfl) Try.func9
    (ChangeSpec.witness6 (enc := enc) (C := Try.checked) false ⟨#[], #[.slice none 0 0], []⟩ 8 (by kernel_rfl) (by kernel_rfl) (by kernel_rfl) (by kernel_rfl)) ?_
  intro W base args ds gs before hval0 hW hcnd _
  have hval : ∀ (j : Nat) t v, Try.f9.params[j]? = some t → args[j]? = some v → Value.okWide Try.prog W .any base t v := hval0
  have hW' := hW
  obtain ⟨p, q, hA0, hV, rfl, hfz, hnd⟩ := hW
  have hA : DataW.TrodAll enc Try.prog W 0 (fun _ => true) true Try.f9.params.toList args.toList ds p := hA0
  rw [Try.params9] at hA hval
  obtain ⟨v0, d0, rfl, rfl, h0⟩ := trodAll_one hA
  obtain ⟨rfl, rfl⟩ := trodVars_none hV
  clear hA0 hval0
  simp only [List.append_nil] at hW'
  have hlt : ∀ x ∈ p, x.block < W.heap.size := fun x hx => by simpa using hW'.lt x hx
  have hargs : ∀ (W' : World), Below W.heap.size W W' → DataW.Trod enc Try.prog W' 0 (fun b => decide (b < W.heap.size)) true 38 v0 d0 p :=
    fun W' hn => Below.trod laidOut (by kernel_rfl) (of_decide_eq_true (by kernel_rfl)) h0 hn hlt
  have fin : ∀ e W', (e = Ending.returned (.bool true) ∧ Below W.heap.size W W') → ∃ v, e = Ending.returned v ∧ Rows.fnSortSpec.post enc Try.checked.prog Try.f9 false true false false W #[v0] v W' := fun e W' ⟨he, hb⟩ => by
    subst he
    exact ⟨_, rfl, law_post (pa := p) (pv := []) hW' (trodAll_cons_mk (shut_bool Try.underlying4 _) trodAll_mk0) (trodAll_mk1 (hargs _ hb)) rfl hb⟩
  rcases open_pairs (hval 0 38 v0 rfl rfl) h0 with ⟨a, cap, rfl⟩ | ⟨b, o, cap, l, rfl, hne, hl, hin, hs⟩
  · exact (fnSort_nil a cap W).mono fin
  · exact (fnSort_some l b o cap W hin hl hs).mono fin

theorem over : Rows.fnSortRow.holds Try.pinned (OpenSpec.ofChange Rows.fnSortSpec) :=
  OpenClaim.holds_of_wide 9 Try.f9 rfl rfl rfl rfl rfl rfl rfl ⟨rfl, rfl, rfl, rfl, rfl⟩ rfl rfl rfl rfl rfl (by kernel_rfl) Try.func9 (by kernel_rfl)
    (of_decide_eq_true (by kernel_rfl)) (by unfold Func.isWrapper; first | (rw [if_pos (by decide +kernel)]; kernel_rfl) | (rw [if_neg (by decide +kernel)]; exact ⟨rfl, rfl⟩))
    (fun os started H enc _ => lifted os started H enc)

theorem proved : Rows.FnSortSaid :=
  over
end Go.Proofs.Ytdinaphcglmhoaa.fnSort
