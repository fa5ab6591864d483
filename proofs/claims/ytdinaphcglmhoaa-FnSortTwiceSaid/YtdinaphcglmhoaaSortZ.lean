/-
  impl.Sort at no element, nil too.
-/
import Derived.Test.YtdinaphcglmhoaaSortI
namespace Go.Proofs.Ytdinaphcglmhoaa
open Go.RowKit Go.Sort
set_option linter.unusedVariables false

theorem modSort_nil (p : Option Addr) (cap : Nat) (w : World) :
    Calls Try.prog 38 #[.slice p 0 cap] w fun e w' => e = .returned (.tuple #[]) ∧ w' = w := by
  have hcon := fun fv W => AnyF.slices_SortFunc_none (P := Try.prog) { Try.sortV with } p cap fv W
  change ∀ fv W, Calls Try.prog 51 _ _ _ at hcon
  go_enter Try.func38, Try.ntmps38
  go_wp2_with (go_at_call 51; refine (hcon _ _).mono ?_; rintro e w' ⟨rfl, rfl⟩)
  go_end0
  exact ⟨rfl, rfl⟩

set_option maxRecDepth 8000 in
set_option maxHeartbeats 2000000 in
theorem implSort_nil (a : Option Addr) (cap : Nat) (w : World) :
    Calls Try.prog 24 #[.slice a 0 cap] w fun e w' => ∃ g cap', e = .returned (.slice (some ⟨g, 0, none⟩) 0 cap') ∧ Below w.heap.size w w' := by
  have M := Lib.hid (fun p cap w => modSort_nil p cap w)
  go_enter Try.func24, Try.ntmps24
  go_wp2
  go_loopw [3, 12] (fun v i wr => v = .slice (some ⟨w.heap.size, 0, none⟩) 0 0 ∧ i = .int .i64 0 ∧ Below w.heap.size w wr) (fun _ _ _ => 0)
  case atStart => exact ⟨rfl, rfl, below_al (Below.refl _ _) _⟩
  case round =>
    obtain ⟨rfl, rfl, hb⟩ := hrel
    have HB := Lib.hid (below_al hb (.cells #[] 24))
    clear hb
    go_wp2_with fail
    refine (M.out _ _ _).mono ?_
    rintro e w' ⟨rfl, rfl⟩
    go_wp2
    go_loopw [6, 30] (fun v i wr2 => v = .slice (some ⟨w'.heap.size, 0, none⟩) 0 0 ∧ i = .int .i64 0 ∧ wr2 = w'.alloc (.cells #[] 24)) (fun _ _ _ => 0)
    case atStart => exact ⟨rfl, rfl, rfl⟩
    case round =>
      obtain ⟨rfl, rfl, rfl⟩ := hrel
      go_wp2
      go_ret
      exact ⟨_, _, rfl, HB.out⟩
end Go.Proofs.Ytdinaphcglmhoaa
