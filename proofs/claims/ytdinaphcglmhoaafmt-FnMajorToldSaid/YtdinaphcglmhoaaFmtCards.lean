/-
  DERIVED. GIVEN WITH THE SEED: THE CARDS: each row of YtdinaphcglmhoaaFmtRows.lean that lists a variable, with what it lists TIED to the program's text (the seventh form; the later family's looks); each row that meets fmt, with fmt's text TOLD by the authors' own Lean function (tested against real Go, not proved from fmt's source: count such statements apart). THE CARD IS WHAT COUNTS. Prove the row's statement (the work); the ties are given (YtdinaphcglmhoaaFmtTie.lean); close each card by the builder's one call (the guide's Derived/Test/ToyasCard.lean, 'card_holds'). Laid BY PROGRAM, IN A SANDBOX (cutbox-door.mjs). By AI agents, Wed Nov 11 2026. No macro, syntax, notation, axiom, sorry.
-/
import Derived.Test.YtdinaphcglmhoaaFmtRows
import GoSem.ClaimSeven
namespace Go.Proofs.YtdinaphcglmhoaaFmt
namespace Rows

/-- THE TOLD CARD OF 'laws.FnMajor'. -/
def fnMajorCard : Claim7 := { stood := { row := fnMajorRow, standIns := [], harness := (true, "d54b74e7cf1c876c5ffaa61623a1de474c77b7f7a33cbfb8ef70e111f70c9f15"), looks := false }, told := true, goes := false }
def FnMajorToldSaid : Prop := Claim7.holds Tryf.pinned (.plain (OpenSpec.ofChange fnMajorSpec)) fnMajorCard
/-- ITS FALSE NEIGHBOUR. Refute it at one input. -/
def FnMajorToldWrongFalsely : Prop := Claim7.holds Tryf.pinned (.plain (OpenSpec.ofChange fnMajorWrong)) fnMajorCard
end Rows
end Go.Proofs.YtdinaphcglmhoaaFmt
