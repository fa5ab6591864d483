/-
  DERIVED. GIVEN WITH THE SEED: THE CARDS: each row of YtdinaphcglmhoaaDoorRows.lean that lists a variable, with what it lists TIED to the program's text (the seventh form; the later family's looks); each row that meets fmt, with fmt's text TOLD by the authors' own Lean function (tested against real Go, not proved from fmt's source: count such statements apart). THE CARD IS WHAT COUNTS. Prove the row's statement (the work); the ties are given (YtdinaphcglmhoaaDoorTie.lean); close each card by the builder's one call (the guide's Derived/Test/ToyasCard.lean, 'card_holds'). Laid BY PROGRAM, IN A SANDBOX (cutbox-door.mjs). By AI agents, Wed Nov 11 2026. No macro, syntax, notation, axiom, sorry.
-/
import Derived.Test.YtdinaphcglmhoaaDoorRows
import GoSem.ClaimSeven
namespace Go.Proofs.YtdinaphcglmhoaaDoor
namespace Rows

/-- THE TIED CARD OF 'laws.FnGlobs'. -/
def fnGlobsCard : Claim7 := { stood := { row := fnGlobsRow, standIns := [], harness := (true, "4a76a70665221a75b7e1a54c9c279f960f5f4d786e875cc3cc3b0e3711d3feef"), looks := false }, kinds := [], alts := [], laidByText := true, laidKinds := [.data, .sentinel, .pinned], laidTests := true, laidLooks := .later }
def FnGlobsCardSaid : Prop := Claim7.holds Tryd.pinned (.plain (OpenSpec.ofChange fnGlobsSpec)) fnGlobsCard

/-- THE TIED CARD OF 'laws.FnGlobsDeeper'. -/
def fnGlobsDeeperCard : Claim7 := { stood := { row := fnGlobsDeeperRow, standIns := [], harness := (true, "4a76a70665221a75b7e1a54c9c279f960f5f4d786e875cc3cc3b0e3711d3feef"), looks := false }, kinds := [], alts := [], laidByText := true, laidKinds := [.data, .sentinel, .pinned], laidTests := true, laidLooks := .later }
def FnGlobsDeeperCardSaid : Prop := Claim7.holds Tryd.pinned (.plain (OpenSpec.ofChange fnGlobsDeeperSpec)) fnGlobsDeeperCard

/-- THE SECOND FORM's CARD OF 'laws.FnGlobs'. -/
def fnGlobsUptoCard : Claim7 := { stood := { row := fnGlobsUptoRow, standIns := [], harness := (true, "4a76a70665221a75b7e1a54c9c279f960f5f4d786e875cc3cc3b0e3711d3feef"), looks := false }, kinds := [], alts := [], laidByText := true, laidKinds := [.data, .sentinel, .pinned], laidTests := true, laidLooks := .later }
def FnGlobsUptoCardSaid : Prop := Claim7.holds Tryd.pinned (.plain (OpenSpec.upto fnGlobsSpec)) fnGlobsUptoCard

/-- THE SECOND FORM's CARD OF 'laws.FnGlobsDeeper'. -/
def fnGlobsDeeperUptoCard : Claim7 := { stood := { row := fnGlobsDeeperUptoRow, standIns := [], harness := (true, "4a76a70665221a75b7e1a54c9c279f960f5f4d786e875cc3cc3b0e3711d3feef"), looks := false }, kinds := [], alts := [], laidByText := true, laidKinds := [.data, .sentinel, .pinned], laidTests := true, laidLooks := .later }
def FnGlobsDeeperUptoCardSaid : Prop := Claim7.holds Tryd.pinned (.plain (OpenSpec.upto fnGlobsDeeperSpec)) fnGlobsDeeperUptoCard
end Rows
end Go.Proofs.YtdinaphcglmhoaaDoor
