/-
  What the row's list gives (the two tables of unicode/utf8, path.ErrBadPattern), and a world that fits.
-/
import Derived.Test.YtdinaphcglmhoaaDoorCards
import Derived.Test.YtdinaphcglmhoaaDoorTie
import Derived.Test.YtdinaphcglmhoaaDoorEsc
import Derived.ProofKit
import Derived.OpenShut
import Derived.ShutString
import Derived.PinnedBridge
import Derived.Lib.LaidU8
import Derived.Lib.LaidIn
import Derived.Stop.LaidErr
import Derived.Deep.DeepHandedRow
import Derived.Deep.DeepWitnessRowRef
namespace Go.Proofs.YtdinaphcglmhoaaDoor
open Go.ChangeShapes Go.WideShapes Go.ChangeAt Go.RowKit
open Go.Lib
set_option linter.unusedVariables false

theorem own : ownKnob Tryd.prog.godebug = none := by kernel_rfl
theorem star : "*" ++ "errors.errorString" = "*errors.errorString" := by decide
theorem rowErr (u : TypeId) (h : Tryd.prog.typeName? 3 u = some "*errors.errorString") : u = 57 :=
  typeName_ptr_named (nm := "errors.errorString") (by rw [star]; kernel_rfl) (by kernel_rfl) (by decide) u (by rw [star]; exact h)

/-- the row's list -/
def laidL : List (String × DataW Unit) := Rows.fnGlobsRow.laid
theorem laidL2 : Rows.fnGlobsDeeperRow.laid = laidL := rfl

set_option maxRecDepth 1000000 in
theorem glo_of {W : World} (h : laidMet Tryd.prog laidL W) : Glo W := by
  have h1 : laidMet Tryd.prog (("unicode/utf8.acceptRanges", Rows.laid_unicode_utf8_acceptRanges) :: ("path.ErrBadPattern", Rows.laid_path_ErrBadPattern) :: [("unicode/utf8.first", Rows.laid_unicode_utf8_first)]) W := h
  obtain ⟨a0, s0, hv0, hc0, _, _⟩ := laid_sentinel (g := 1) h1.tail (by kernel_rfl) (by kernel_rfl) Tryd.underlying36 rowErr Tryd.underlying57 Tryd.underlying77 rfl rfl Tryd.underlying9 (by kernel_rfl) (by kernel_rfl)
  refine ⟨?_, a0, ?_⟩
  · refine utf8Tabs_of_reads (ρ := Tryd.lays260_ren) { Tryd.lays260 with } ⟨by kernel_rfl, by kernel_rfl, by kernel_rfl, by kernel_rfl, by kernel_rfl, by kernel_rfl, by kernel_rfl⟩ ?_ ?_
    · have := Lib.laidMet.reads h1 (n := "unicode/utf8.first") (d := Rows.laid_unicode_utf8_first) (.tail _ (.tail _ (.head _)))
      rw [show Rows.laid_unicode_utf8_first = Lib.firstData from Pinned.utf8First_eq] at this
      exact this
    · have := Lib.laidMet.reads h1 (n := "unicode/utf8.acceptRanges") (d := Rows.laid_unicode_utf8_acceptRanges) (.head _)
      rw [show (Rows.laid_unicode_utf8_acceptRanges : DataW Unit) = Lib.acceptData by kernel_rfl] at this
      exact this
  · have hg : Tryd.prog.globalNamed "path.ErrBadPattern" = some 1 := by kernel_rfl
    simpa using World.var?_cell hg hv0 0

/-- THE WITNESS's WORLD: the settled one with one block more (the error's struct), the three variables as their initialisers lay them. -/
noncomputable def laidWorld (os : Os) : World :=
  let N := (World.settled Tryd.prog os).heap.size
  let w0 := World.holding Tryd.prog os ⟨#[.cells #[.string ⟨#[115, 121, 110, 116, 97, 120, 32, 101, 114, 114, 111, 114, 32, 105, 110, 32, 112, 97, 116, 116, 101, 114, 110]⟩] 77], #[], []⟩
  let put (h : Array Obj) (g : Nat) (cs : Array Value) : Array Obj := h.modify g fun
    | .cells _ t frozen => .cells cs t frozen
    | o => o
  let h0 := put w0.heap 1 #[.iface 57 (.pointer (some ⟨N, 0, none⟩))]
  let h1 := put h0 2 (Lib.firstTab.map fun z => Value.int .u8 z).toArray
  let h2 := put h1 3 ((List.range 16).flatMap fun i => [Value.int .u8 (Lib.accLo i), Value.int .u8 (Lib.accHi i)]).toArray
  { w0 with heap := h2 }
noncomputable def N0 : Nat := (World.settled Tryd.prog default).heap.size
set_option maxRecDepth 1000000 in
theorem laid_met (os : Os) (args : Array Value) : laidMet Tryd.prog laidL ((laidWorld os).forCall (fun _ _ => 0) ⟨#[], args, []⟩).memory :=
  (LaidIn.of_run [3, 1, N0, 2] 10 (by kernel_rfl) (by kernel_rfl) (by kernel_rfl) (by kernel_rfl)).met
end Go.Proofs.YtdinaphcglmhoaaDoor
