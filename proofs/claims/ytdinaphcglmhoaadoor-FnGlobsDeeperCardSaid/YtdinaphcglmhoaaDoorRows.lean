/-
  NARROWER THAN 'FOR EVERY INPUT', by the rows' own cells (each row's printed sentence says how): FnGlobs: laid · FnGlobsDeeper: laid.
  DERIVED. THE GIVEN ROWS OF THIS SEAT. 2 by the template 'for every input the law returns true; each argument reads behind the call as it read before'; 0 by the template 'total and deterministic' (their statements: YtdinaphcglmhoaaDoorTotals.lean).
  GIVEN WITH THE SEED: the statements are not yours to turn. If you find one false, say at which input.
  Laid BY PROGRAM, IN A SANDBOX (cutbox-rows.mjs): the forced cells as the released guide's own fill.sh prints them over the translation 6b8dd2de7e5c853e… (all of the seat's roots in one cut). By AI agents, Wed Nov 11 2026. No macro, syntax, notation, axiom, sorry.
-/
import Derived.Test.YtdinaphcglmhoaaDoorChecked
import GoSem.PinnedTables
import GoSem.Claim
import GoSem.ClaimJoined
import GoSem.ClaimMapViews
import Derived.JoinedTies
import Derived.KernelRfl
namespace Go.Proofs.YtdinaphcglmhoaaDoor
/- THE CELL 'sum', in the pinned program and in every row, IS THE sha256 OF THE DUMP (.gsa) THAT YtdinaphcglmhoaaDoorProg.lean LOADS. Nothing in Lean hashes anything: it is a label: what it is worth is what the hold of that sum in a sandbox is worth. -/
noncomputable def Tryd.pinned : Pinned := { name := "ytdinaphcglmhoaadoor", sum := "6b8dd2de7e5c853e15ab75363033119d7902442a84f61cdaaa9aa8ec9ef90c46", checked := Tryd.checked }
namespace Rows
def none {H : Type} : Left H := { results := [], args := [] }

/- WHAT THE LISTED PACKAGE-LEVEL VARIABLES READ AS WHEN THE CALL BEGINS. Each datum BY PROGRAM (the guide's laid-datum.mjs) off the statement by which the dump's own 'gosem.cut.vars' lays the variable. In a bare row this is a premise. The card (YtdinaphcglmhoaaDoorCards.lean) ties it to the program's text. -/
def laid_unicode_utf8_acceptRanges {H : Type} : DataW H := .agg [.agg [.lit (.int .u8 128), .lit (.int .u8 191)], .agg [.lit (.int .u8 160), .lit (.int .u8 191)], .agg [.lit (.int .u8 128), .lit (.int .u8 159)], .agg [.lit (.int .u8 144), .lit (.int .u8 191)], .agg [.lit (.int .u8 128), .lit (.int .u8 143)], .agg [.lit (.int .u8 0), .lit (.int .u8 0)], .agg [.lit (.int .u8 0), .lit (.int .u8 0)], .agg [.lit (.int .u8 0), .lit (.int .u8 0)], .agg [.lit (.int .u8 0), .lit (.int .u8 0)], .agg [.lit (.int .u8 0), .lit (.int .u8 0)], .agg [.lit (.int .u8 0), .lit (.int .u8 0)], .agg [.lit (.int .u8 0), .lit (.int .u8 0)], .agg [.lit (.int .u8 0), .lit (.int .u8 0)], .agg [.lit (.int .u8 0), .lit (.int .u8 0)], .agg [.lit (.int .u8 0), .lit (.int .u8 0)], .agg [.lit (.int .u8 0), .lit (.int .u8 0)]]
def laid_path_ErrBadPattern {H : Type} : DataW H := .iface "*errors.errorString" (.ptr (.agg [.lit (.string [115, 121, 110, 116, 97, 120, 32, 101, 114, 114, 111, 114, 32, 105, 110, 32, 112, 97, 116, 116, 101, 114, 110])]))
/-- One of Go's own tables, pinned by name: the form's constant. -/
def laid_unicode_utf8_first : DataW Unit := Go.Pinned.utf8First

/-- 'laws.FnGlobs': WHATEVER THE INPUT: true; the input reads as it did. -/
def fnGlobsSpec : ChangeSpec := { name := "fnGlobs", fn := fun _ => fun
  | [d1, d2] => { results := [.lit (.bool true)], args := [d1, d2] }
  | _ => none }
def fnGlobsRow : OpenClaim := { program := "ytdinaphcglmhoaadoor", sum := "6b8dd2de7e5c853e15ab75363033119d7902442a84f61cdaaa9aa8ec9ef90c46", func := "loop.example/pub-modulenames/laws.FnGlobs", spec := "fnGlobs", inPlace := ["internal/bytealg.IndexByteString"], recurses := true, named := ["path.ErrBadPattern", "unicode/utf8.first", "unicode/utf8.acceptRanges"], apart := false, laid := [("unicode/utf8.acceptRanges", laid_unicode_utf8_acceptRanges), ("path.ErrBadPattern", laid_path_ErrBadPattern), ("unicode/utf8.first", laid_unicode_utf8_first)] }
def FnGlobsSaid : Prop := fnGlobsRow.holds Tryd.pinned (OpenSpec.ofChange fnGlobsSpec)

/-- ITS FALSE NEIGHBOUR: 'it returns false'. Refute it at one input. -/
def fnGlobsWrong : ChangeSpec := { name := "fnGlobs", fn := fun _ => fun
  | [d1, d2] => { results := [.lit (.bool false)], args := [d1, d2] }
  | _ => none }
def FnGlobsWrongFalsely : Prop := fnGlobsRow.holds Tryd.pinned (OpenSpec.ofChange fnGlobsWrong)

/-- 'laws.FnGlobsDeeper': WHATEVER THE INPUT: true; the input reads as it did. -/
def fnGlobsDeeperSpec : ChangeSpec := { name := "fnGlobsDeeper", fn := fun _ => fun
  | [d1, d2, d3] => { results := [.lit (.bool true)], args := [d1, d2, d3] }
  | _ => none }
def fnGlobsDeeperRow : OpenClaim := { program := "ytdinaphcglmhoaadoor", sum := "6b8dd2de7e5c853e15ab75363033119d7902442a84f61cdaaa9aa8ec9ef90c46", func := "loop.example/pub-modulenames/laws.FnGlobsDeeper", spec := "fnGlobsDeeper", inPlace := ["internal/bytealg.IndexByteString"], recurses := true, named := ["path.ErrBadPattern", "unicode/utf8.first", "unicode/utf8.acceptRanges"], apart := false, laid := [("unicode/utf8.acceptRanges", laid_unicode_utf8_acceptRanges), ("path.ErrBadPattern", laid_path_ErrBadPattern), ("unicode/utf8.first", laid_unicode_utf8_first)] }
def FnGlobsDeeperSaid : Prop := fnGlobsDeeperRow.holds Tryd.pinned (OpenSpec.ofChange fnGlobsDeeperSpec)

/-- ITS FALSE NEIGHBOUR: 'it returns false'. Refute it at one input. -/
def fnGlobsDeeperWrong : ChangeSpec := { name := "fnGlobsDeeper", fn := fun _ => fun
  | [d1, d2, d3] => { results := [.lit (.bool false)], args := [d1, d2, d3] }
  | _ => none }
def FnGlobsDeeperWrongFalsely : Prop := fnGlobsDeeperRow.holds Tryd.pinned (OpenSpec.ofChange fnGlobsDeeperWrong)

/- THE SECOND FORM. 'bulk': how many values and letters a reading holds, each counted each time it is reached (what is shared counts as often as it is met; a slice's spare places count too). A statement '..UptoSaid' is the law's where the arguments, and the package variables that the reading takes, are together of bulk at most 1048576: NARROWER than '..Said'. Prove '..Said' where nothing that the law and all that it calls make is longer than what came in: it says more and counts as full. Else prove '..UptoSaid'. A law counts once. -/
mutual
def uptoBulk {H : Type} : DataW H → Nat
  | .lit (.string bytes) => bytes.length + 1
  | .lit _ => 1
  | .nil => 1
  | .ptr d => uptoBulk d + 1
  | .slice elems spare => uptoBulkAll elems + uptoBulkAll spare + 1
  | .agg parts => uptoBulkAll parts + 1
  | .iface _ d => uptoBulk d + 1
  | .map entries => uptoBulkEntries entries + 1
  | .held _ => 1
def uptoBulkAll {H : Type} : List (DataW H) → Nat
  | [] => 0
  | d :: r => uptoBulk d + uptoBulkAll r
def uptoBulkEntries {H : Type} : List (Lit × DataW H) → Nat
  | [] => 0
  | x :: r => uptoBulkEntry x + uptoBulkEntries r
def uptoBulkEntry {H : Type} : Lit × DataW H → Nat
  | (.string bytes, d) => bytes.length + uptoBulk d + 1
  | (_, d) => uptoBulk d + 1
 end
def uptoSmall : (H : Type) → List (DataW H) → Bool := fun _ ds => decide (uptoBulkAll ds ≤ 1048576)
def OpenSpec.upto (s : _root_.Go.ChangeSpec) : _root_.Go.OpenSpec := { _root_.Go.OpenSpec.ofChange s with cond := some uptoSmall }

/-- 'laws.FnGlobs', WHERE WHAT IT READS IS OF BULK AT MOST 1048576: true; the input reads as it did. -/
def fnGlobsUptoRow : OpenClaim := { program := "ytdinaphcglmhoaadoor", sum := "6b8dd2de7e5c853e15ab75363033119d7902442a84f61cdaaa9aa8ec9ef90c46", func := "loop.example/pub-modulenames/laws.FnGlobs", spec := "fnGlobs", inPlace := ["internal/bytealg.IndexByteString"], recurses := true, named := ["path.ErrBadPattern", "unicode/utf8.first", "unicode/utf8.acceptRanges"], apart := false, laid := [("unicode/utf8.acceptRanges", laid_unicode_utf8_acceptRanges), ("path.ErrBadPattern", laid_path_ErrBadPattern), ("unicode/utf8.first", laid_unicode_utf8_first)], narrowed := true }
def FnGlobsUptoSaid : Prop := fnGlobsUptoRow.holds Tryd.pinned (OpenSpec.upto fnGlobsSpec)

/-- 'laws.FnGlobsDeeper', WHERE WHAT IT READS IS OF BULK AT MOST 1048576: true; the input reads as it did. -/
def fnGlobsDeeperUptoRow : OpenClaim := { program := "ytdinaphcglmhoaadoor", sum := "6b8dd2de7e5c853e15ab75363033119d7902442a84f61cdaaa9aa8ec9ef90c46", func := "loop.example/pub-modulenames/laws.FnGlobsDeeper", spec := "fnGlobsDeeper", inPlace := ["internal/bytealg.IndexByteString"], recurses := true, named := ["path.ErrBadPattern", "unicode/utf8.first", "unicode/utf8.acceptRanges"], apart := false, laid := [("unicode/utf8.acceptRanges", laid_unicode_utf8_acceptRanges), ("path.ErrBadPattern", laid_path_ErrBadPattern), ("unicode/utf8.first", laid_unicode_utf8_first)], narrowed := true }
def FnGlobsDeeperUptoSaid : Prop := fnGlobsDeeperUptoRow.holds Tryd.pinned (OpenSpec.upto fnGlobsDeeperSpec)

end Rows
end Go.Proofs.YtdinaphcglmhoaaDoor
