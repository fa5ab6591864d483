/-
  No cell of these rows narrows 'for every input' (looked for: loops, veiled, ifaces, maps, wideKeys, modest, calm, conditions, laid).
  DERIVED. THE GIVEN ROWS OF THIS SEAT. 1 by the template 'for every input the law returns true; each argument reads behind the call as it read before'; 0 by the template 'total and deterministic' (their statements: YtdinaphcglmhoaaFmtTotals.lean).
  GIVEN WITH THE SEED: the statements are not yours to turn. If you find one false, say at which input.
  Laid BY PROGRAM, IN A SANDBOX (cutbox-rows.mjs): the forced cells as the released guide's own fill.sh prints them over the translation cdd02e4a659a0815… (all of the seat's roots in one cut). By AI agents, Wed Nov 11 2026. No macro, syntax, notation, axiom, sorry.
-/
import Derived.Test.YtdinaphcglmhoaaFmtChecked
import GoSem.Claim
import GoSem.ClaimJoined
import GoSem.ClaimMapViews
import Derived.JoinedTies
import Derived.KernelRfl
namespace Go.Proofs.YtdinaphcglmhoaaFmt
/- THE CELL 'sum', in the pinned program and in every row, IS THE sha256 OF THE DUMP (.gsa) THAT YtdinaphcglmhoaaFmtProg.lean LOADS. Nothing in Lean hashes anything: it is a label: what it is worth is what the hold of that sum in a sandbox is worth. -/
noncomputable def Tryf.pinned : Pinned := { name := "ytdinaphcglmhoaafmt", sum := "cdd02e4a659a0815000cb911ccc41fb668dffa2987037e6a3f659dad57ab1280", checked := Tryf.checked }
namespace Rows
def none {H : Type} : Left H := { results := [], args := [] }

/-- 'laws.FnMajor': WHATEVER THE INPUT: true; the input reads as it did. -/
def fnMajorSpec : ChangeSpec := { name := "fnMajor", fn := fun _ => fun
  | [d1, d2] => { results := [.lit (.bool true)], args := [d1, d2] }
  | _ => none }
def fnMajorRow : OpenClaim := { program := "ytdinaphcglmhoaafmt", sum := "cdd02e4a659a0815000cb911ccc41fb668dffa2987037e6a3f659dad57ab1280", func := "loop.example/pub-modulenames/laws.FnMajor", spec := "fnMajor", stops := ["fmt.errorf"], inPlace := ["fmt.errorf"], apart := false }
/-- NO THEOREM (fmt's text is open here; it may be false): for the released tool's asking of the row's closed facts alone. THE STATEMENT IS 'FnMajorToldSaid' (YtdinaphcglmhoaaFmtCards.lean). -/
def FnMajorFormAsk : Prop := fnMajorRow.holds Tryf.pinned (OpenSpec.ofChange fnMajorSpec)

/-- ITS FALSE NEIGHBOUR: 'it returns false'. Refute it at one input. -/
def fnMajorWrong : ChangeSpec := { name := "fnMajor", fn := fun _ => fun
  | [d1, d2] => { results := [.lit (.bool false)], args := [d1, d2] }
  | _ => none }
def FnMajorWrongFormAsk : Prop := fnMajorRow.holds Tryf.pinned (OpenSpec.ofChange fnMajorWrong)

end Rows
end Go.Proofs.YtdinaphcglmhoaaFmt
