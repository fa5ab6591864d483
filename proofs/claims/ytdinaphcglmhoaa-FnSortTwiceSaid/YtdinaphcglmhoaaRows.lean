/-
  No cell of these rows narrows 'for every input' (looked for: loops, veiled, ifaces, maps, wideKeys, modest, calm, conditions, laid).
  DERIVED. THE GIVEN ROWS OF THIS SEAT. 9 by the template 'for every input the law returns true; each argument reads behind the call as it read before'; 0 by the template 'total and deterministic' (their statements: YtdinaphcglmhoaaTotals.lean).
  GIVEN WITH THE SEED: the statements are not yours to turn. If you find one false, say at which input.
  Laid BY PROGRAM, IN A SANDBOX (cutbox-rows.mjs): the forced cells as the released guide's own fill.sh prints them over the translation db1ad102bec72ef7… (all of the seat's roots in one cut). By AI agents, Wed Nov 11 2026. No macro, syntax, notation, axiom, sorry.
-/
import Derived.Test.YtdinaphcglmhoaaChecked
import GoSem.Claim
import GoSem.ClaimJoined
import GoSem.ClaimMapViews
import Derived.JoinedTies
import Derived.KernelRfl
namespace Go.Proofs.Ytdinaphcglmhoaa
/- THE CELL 'sum', in the pinned program and in every row, IS THE sha256 OF THE DUMP (.gsa) THAT YtdinaphcglmhoaaProg.lean LOADS. Nothing in Lean hashes anything: it is a label: what it is worth is what the hold of that sum in a sandbox is worth. -/
noncomputable def Try.pinned : Pinned := { name := "ytdinaphcglmhoaa", sum := "db1ad102bec72ef74ea8be60fc00749151c7f9cc37143b7ad52caf5249c4a16c", checked := Try.checked }
namespace Rows
def none {H : Type} : Left H := { results := [], args := [] }

/-- 'laws.FnText': WHATEVER THE INPUT: true; the input reads as it did. -/
def fnTextSpec : ChangeSpec := { name := "fnText", fn := fun _ => fun
  | [d1, d2] => { results := [.lit (.bool true)], args := [d1, d2] }
  | _ => none }
def fnTextRow : OpenClaim := { program := "ytdinaphcglmhoaa", sum := "db1ad102bec72ef74ea8be60fc00749151c7f9cc37143b7ad52caf5249c4a16c", func := "loop.example/pub-modulenames/laws.FnText", spec := "fnText", plainKeys := false, apart := false }
def FnTextSaid : Prop := fnTextRow.holds Try.pinned (OpenSpec.ofChange fnTextSpec)

/-- ITS FALSE NEIGHBOUR: 'it returns false'. Refute it at one input. -/
def fnTextWrong : ChangeSpec := { name := "fnText", fn := fun _ => fun
  | [d1, d2] => { results := [.lit (.bool false)], args := [d1, d2] }
  | _ => none }
def FnTextWrongFalsely : Prop := fnTextRow.holds Try.pinned (OpenSpec.ofChange fnTextWrong)

/-- 'laws.FnSplit': WHATEVER THE INPUT: true; the input reads as it did. -/
def fnSplitSpec : ChangeSpec := { name := "fnSplit", fn := fun _ => fun
  | [d] => { results := [.lit (.bool true)], args := [d] }
  | _ => none }
def fnSplitRow : OpenClaim := { program := "ytdinaphcglmhoaa", sum := "db1ad102bec72ef74ea8be60fc00749151c7f9cc37143b7ad52caf5249c4a16c", func := "loop.example/pub-modulenames/laws.FnSplit", spec := "fnSplit", plainKeys := false, apart := false }
def FnSplitSaid : Prop := fnSplitRow.holds Try.pinned (OpenSpec.ofChange fnSplitSpec)

/-- ITS FALSE NEIGHBOUR: 'it returns false'. Refute it at one input. -/
def fnSplitWrong : ChangeSpec := { name := "fnSplit", fn := fun _ => fun
  | [d] => { results := [.lit (.bool false)], args := [d] }
  | _ => none }
def FnSplitWrongFalsely : Prop := fnSplitRow.holds Try.pinned (OpenSpec.ofChange fnSplitWrong)

/-- 'laws.FnSplitJoin': WHATEVER THE INPUT: true; the input reads as it did. -/
def fnSplitJoinSpec : ChangeSpec := { name := "fnSplitJoin", fn := fun _ => fun
  | [d1, d2] => { results := [.lit (.bool true)], args := [d1, d2] }
  | _ => none }
def fnSplitJoinRow : OpenClaim := { program := "ytdinaphcglmhoaa", sum := "db1ad102bec72ef74ea8be60fc00749151c7f9cc37143b7ad52caf5249c4a16c", func := "loop.example/pub-modulenames/laws.FnSplitJoin", spec := "fnSplitJoin", recurses := true, plainKeys := false, apart := false }
def FnSplitJoinSaid : Prop := fnSplitJoinRow.holds Try.pinned (OpenSpec.ofChange fnSplitJoinSpec)

/-- ITS FALSE NEIGHBOUR: 'it returns false'. Refute it at one input. -/
def fnSplitJoinWrong : ChangeSpec := { name := "fnSplitJoin", fn := fun _ => fun
  | [d1, d2] => { results := [.lit (.bool false)], args := [d1, d2] }
  | _ => none }
def FnSplitJoinWrongFalsely : Prop := fnSplitJoinRow.holds Try.pinned (OpenSpec.ofChange fnSplitJoinWrong)

/-- 'laws.FnCanonical': WHATEVER THE INPUT: true; the input reads as it did. -/
def fnCanonicalSpec : ChangeSpec := { name := "fnCanonical", fn := fun _ => fun
  | [d] => { results := [.lit (.bool true)], args := [d] }
  | _ => none }
def fnCanonicalRow : OpenClaim := { program := "ytdinaphcglmhoaa", sum := "db1ad102bec72ef74ea8be60fc00749151c7f9cc37143b7ad52caf5249c4a16c", func := "loop.example/pub-modulenames/laws.FnCanonical", spec := "fnCanonical", plainKeys := false, apart := false }
def FnCanonicalSaid : Prop := fnCanonicalRow.holds Try.pinned (OpenSpec.ofChange fnCanonicalSpec)

/-- ITS FALSE NEIGHBOUR: 'it returns false'. Refute it at one input. -/
def fnCanonicalWrong : ChangeSpec := { name := "fnCanonical", fn := fun _ => fun
  | [d] => { results := [.lit (.bool false)], args := [d] }
  | _ => none }
def FnCanonicalWrongFalsely : Prop := fnCanonicalRow.holds Try.pinned (OpenSpec.ofChange fnCanonicalWrong)

/-- 'laws.FnCanonicalTwice': WHATEVER THE INPUT: true; the input reads as it did. -/
def fnCanonicalTwiceSpec : ChangeSpec := { name := "fnCanonicalTwice", fn := fun _ => fun
  | [d] => { results := [.lit (.bool true)], args := [d] }
  | _ => none }
def fnCanonicalTwiceRow : OpenClaim := { program := "ytdinaphcglmhoaa", sum := "db1ad102bec72ef74ea8be60fc00749151c7f9cc37143b7ad52caf5249c4a16c", func := "loop.example/pub-modulenames/laws.FnCanonicalTwice", spec := "fnCanonicalTwice", plainKeys := false, apart := false }
def FnCanonicalTwiceSaid : Prop := fnCanonicalTwiceRow.holds Try.pinned (OpenSpec.ofChange fnCanonicalTwiceSpec)

/-- ITS FALSE NEIGHBOUR: 'it returns false'. Refute it at one input. -/
def fnCanonicalTwiceWrong : ChangeSpec := { name := "fnCanonicalTwice", fn := fun _ => fun
  | [d] => { results := [.lit (.bool false)], args := [d] }
  | _ => none }
def FnCanonicalTwiceWrongFalsely : Prop := fnCanonicalTwiceRow.holds Try.pinned (OpenSpec.ofChange fnCanonicalTwiceWrong)

/-- 'laws.FnMajorPrefix': WHATEVER THE INPUT: true; the input reads as it did. -/
def fnMajorPrefixSpec : ChangeSpec := { name := "fnMajorPrefix", fn := fun _ => fun
  | [d1, d2] => { results := [.lit (.bool true)], args := [d1, d2] }
  | _ => none }
def fnMajorPrefixRow : OpenClaim := { program := "ytdinaphcglmhoaa", sum := "db1ad102bec72ef74ea8be60fc00749151c7f9cc37143b7ad52caf5249c4a16c", func := "loop.example/pub-modulenames/laws.FnMajorPrefix", spec := "fnMajorPrefix", recurses := true, plainKeys := false, apart := false }
def FnMajorPrefixSaid : Prop := fnMajorPrefixRow.holds Try.pinned (OpenSpec.ofChange fnMajorPrefixSpec)

/-- ITS FALSE NEIGHBOUR: 'it returns false'. Refute it at one input. -/
def fnMajorPrefixWrong : ChangeSpec := { name := "fnMajorPrefix", fn := fun _ => fun
  | [d1, d2] => { results := [.lit (.bool false)], args := [d1, d2] }
  | _ => none }
def FnMajorPrefixWrongFalsely : Prop := fnMajorPrefixRow.holds Try.pinned (OpenSpec.ofChange fnMajorPrefixWrong)

/-- 'laws.FnSort': WHATEVER THE INPUT: true; the input reads as it did. -/
def fnSortSpec : ChangeSpec := { name := "fnSort", fn := fun _ => fun
  | [d] => { results := [.lit (.bool true)], args := [d] }
  | _ => none }
def fnSortRow : OpenClaim := { program := "ytdinaphcglmhoaa", sum := "db1ad102bec72ef74ea8be60fc00749151c7f9cc37143b7ad52caf5249c4a16c", func := "loop.example/pub-modulenames/laws.FnSort", spec := "fnSort", inPlace := ["internal/bytealg.abigen_runtime_cmpstring"], unfollowed := true, recurses := true, plainKeys := false, apart := false }
def FnSortSaid : Prop := fnSortRow.holds Try.pinned (OpenSpec.ofChange fnSortSpec)

/-- ITS FALSE NEIGHBOUR: 'it returns false'. Refute it at one input. -/
def fnSortWrong : ChangeSpec := { name := "fnSort", fn := fun _ => fun
  | [d] => { results := [.lit (.bool false)], args := [d] }
  | _ => none }
def FnSortWrongFalsely : Prop := fnSortRow.holds Try.pinned (OpenSpec.ofChange fnSortWrong)

/-- 'laws.FnSortSuffix': WHATEVER THE INPUT: true; the input reads as it did. -/
def fnSortSuffixSpec : ChangeSpec := { name := "fnSortSuffix", fn := fun _ => fun
  | [d1, d2, d3, d4] => { results := [.lit (.bool true)], args := [d1, d2, d3, d4] }
  | _ => none }
def fnSortSuffixRow : OpenClaim := { program := "ytdinaphcglmhoaa", sum := "db1ad102bec72ef74ea8be60fc00749151c7f9cc37143b7ad52caf5249c4a16c", func := "loop.example/pub-modulenames/laws.FnSortSuffix", spec := "fnSortSuffix", inPlace := ["internal/bytealg.abigen_runtime_cmpstring"], unfollowed := true, recurses := true, plainKeys := false, apart := false }
def FnSortSuffixSaid : Prop := fnSortSuffixRow.holds Try.pinned (OpenSpec.ofChange fnSortSuffixSpec)

/-- ITS FALSE NEIGHBOUR: 'it returns false'. Refute it at one input. -/
def fnSortSuffixWrong : ChangeSpec := { name := "fnSortSuffix", fn := fun _ => fun
  | [d1, d2, d3, d4] => { results := [.lit (.bool false)], args := [d1, d2, d3, d4] }
  | _ => none }
def FnSortSuffixWrongFalsely : Prop := fnSortSuffixRow.holds Try.pinned (OpenSpec.ofChange fnSortSuffixWrong)

/-- 'laws.FnSortTwice': WHATEVER THE INPUT: true; the input reads as it did. -/
def fnSortTwiceSpec : ChangeSpec := { name := "fnSortTwice", fn := fun _ => fun
  | [d1, d2] => { results := [.lit (.bool true)], args := [d1, d2] }
  | _ => none }
def fnSortTwiceRow : OpenClaim := { program := "ytdinaphcglmhoaa", sum := "db1ad102bec72ef74ea8be60fc00749151c7f9cc37143b7ad52caf5249c4a16c", func := "loop.example/pub-modulenames/laws.FnSortTwice", spec := "fnSortTwice", inPlace := ["internal/bytealg.abigen_runtime_cmpstring"], unfollowed := true, recurses := true, plainKeys := false, apart := false }
def FnSortTwiceSaid : Prop := fnSortTwiceRow.holds Try.pinned (OpenSpec.ofChange fnSortTwiceSpec)

/-- ITS FALSE NEIGHBOUR: 'it returns false'. Refute it at one input. -/
def fnSortTwiceWrong : ChangeSpec := { name := "fnSortTwice", fn := fun _ => fun
  | [d1, d2] => { results := [.lit (.bool false)], args := [d1, d2] }
  | _ => none }
def FnSortTwiceWrongFalsely : Prop := fnSortTwiceRow.holds Try.pinned (OpenSpec.ofChange fnSortTwiceWrong)

/- THE SECOND FORM. 'bulk': how many values and letters a reading holds, each counted each time it is reached (what is shared counts as often as it is met; a slice's spare places count too). A statement '..UptoSaid' is the law's where the arguments, and the package variables that the reading takes, are together of bulk at most 1048576: NARROWER than '..Said'. Prove '..Said' where nothing that the law and all that it calls make is longer than what came in: it says more and counts as full. Else prove '..UptoSaid'. A law counts once. -/
mutual
def uptoBulk {H : Type} : DataW H → Nat
  | .lit (.string bytes) => bytes.length + 1
  | .lit _ => 1
  | .nil => 1
  | .ptr d => uptoBulk d + 1
  | .slice elems spare => uptoBulkAll elems + uptoBulkAll spare + 1
  | .agg parts => uptoBulkAll parts + 1
  | .iface _ d => uptoBulk d + 1
  | .map entries => uptoBulkEntries entries + 1
  | .held _ => 1
def uptoBulkAll {H : Type} : List (DataW H) → Nat
  | [] => 0
  | d :: r => uptoBulk d + uptoBulkAll r
def uptoBulkEntries {H : Type} : List (Lit × DataW H) → Nat
  | [] => 0
  | x :: r => uptoBulkEntry x + uptoBulkEntries r
def uptoBulkEntry {H : Type} : Lit × DataW H → Nat
  | (.string bytes, d) => bytes.length + uptoBulk d + 1
  | (_, d) => uptoBulk d + 1
 end
def uptoSmall : (H : Type) → List (DataW H) → Bool := fun _ ds => decide (uptoBulkAll ds ≤ 1048576)
def OpenSpec.upto (s : _root_.Go.ChangeSpec) : _root_.Go.OpenSpec := { _root_.Go.OpenSpec.ofChange s with cond := some uptoSmall }

/-- 'laws.FnText', WHERE WHAT IT READS IS OF BULK AT MOST 1048576: true; the input reads as it did. -/
def fnTextUptoRow : OpenClaim := { program := "ytdinaphcglmhoaa", sum := "db1ad102bec72ef74ea8be60fc00749151c7f9cc37143b7ad52caf5249c4a16c", func := "loop.example/pub-modulenames/laws.FnText", spec := "fnText", plainKeys := false, apart := false, narrowed := true }
def FnTextUptoSaid : Prop := fnTextUptoRow.holds Try.pinned (OpenSpec.upto fnTextSpec)

/-- 'laws.FnSplit', WHERE WHAT IT READS IS OF BULK AT MOST 1048576: true; the input reads as it did. -/
def fnSplitUptoRow : OpenClaim := { program := "ytdinaphcglmhoaa", sum := "db1ad102bec72ef74ea8be60fc00749151c7f9cc37143b7ad52caf5249c4a16c", func := "loop.example/pub-modulenames/laws.FnSplit", spec := "fnSplit", plainKeys := false, apart := false, narrowed := true }
def FnSplitUptoSaid : Prop := fnSplitUptoRow.holds Try.pinned (OpenSpec.upto fnSplitSpec)

/-- 'laws.FnSplitJoin', WHERE WHAT IT READS IS OF BULK AT MOST 1048576: true; the input reads as it did. -/
def fnSplitJoinUptoRow : OpenClaim := { program := "ytdinaphcglmhoaa", sum := "db1ad102bec72ef74ea8be60fc00749151c7f9cc37143b7ad52caf5249c4a16c", func := "loop.example/pub-modulenames/laws.FnSplitJoin", spec := "fnSplitJoin", recurses := true, plainKeys := false, apart := false, narrowed := true }
def FnSplitJoinUptoSaid : Prop := fnSplitJoinUptoRow.holds Try.pinned (OpenSpec.upto fnSplitJoinSpec)

/-- 'laws.FnCanonical', WHERE WHAT IT READS IS OF BULK AT MOST 1048576: true; the input reads as it did. -/
def fnCanonicalUptoRow : OpenClaim := { program := "ytdinaphcglmhoaa", sum := "db1ad102bec72ef74ea8be60fc00749151c7f9cc37143b7ad52caf5249c4a16c", func := "loop.example/pub-modulenames/laws.FnCanonical", spec := "fnCanonical", plainKeys := false, apart := false, narrowed := true }
def FnCanonicalUptoSaid : Prop := fnCanonicalUptoRow.holds Try.pinned (OpenSpec.upto fnCanonicalSpec)

/-- 'laws.FnCanonicalTwice', WHERE WHAT IT READS IS OF BULK AT MOST 1048576: true; the input reads as it did. -/
def fnCanonicalTwiceUptoRow : OpenClaim := { program := "ytdinaphcglmhoaa", sum := "db1ad102bec72ef74ea8be60fc00749151c7f9cc37143b7ad52caf5249c4a16c", func := "loop.example/pub-modulenames/laws.FnCanonicalTwice", spec := "fnCanonicalTwice", plainKeys := false, apart := false, narrowed := true }
def FnCanonicalTwiceUptoSaid : Prop := fnCanonicalTwiceUptoRow.holds Try.pinned (OpenSpec.upto fnCanonicalTwiceSpec)

/-- 'laws.FnMajorPrefix', WHERE WHAT IT READS IS OF BULK AT MOST 1048576: true; the input reads as it did. -/
def fnMajorPrefixUptoRow : OpenClaim := { program := "ytdinaphcglmhoaa", sum := "db1ad102bec72ef74ea8be60fc00749151c7f9cc37143b7ad52caf5249c4a16c", func := "loop.example/pub-modulenames/laws.FnMajorPrefix", spec := "fnMajorPrefix", recurses := true, plainKeys := false, apart := false, narrowed := true }
def FnMajorPrefixUptoSaid : Prop := fnMajorPrefixUptoRow.holds Try.pinned (OpenSpec.upto fnMajorPrefixSpec)

/-- 'laws.FnSort', WHERE WHAT IT READS IS OF BULK AT MOST 1048576: true; the input reads as it did. -/
def fnSortUptoRow : OpenClaim := { program := "ytdinaphcglmhoaa", sum := "db1ad102bec72ef74ea8be60fc00749151c7f9cc37143b7ad52caf5249c4a16c", func := "loop.example/pub-modulenames/laws.FnSort", spec := "fnSort", inPlace := ["internal/bytealg.abigen_runtime_cmpstring"], unfollowed := true, recurses := true, plainKeys := false, apart := false, narrowed := true }
def FnSortUptoSaid : Prop := fnSortUptoRow.holds Try.pinned (OpenSpec.upto fnSortSpec)

/-- 'laws.FnSortSuffix', WHERE WHAT IT READS IS OF BULK AT MOST 1048576: true; the input reads as it did. -/
def fnSortSuffixUptoRow : OpenClaim := { program := "ytdinaphcglmhoaa", sum := "db1ad102bec72ef74ea8be60fc00749151c7f9cc37143b7ad52caf5249c4a16c", func := "loop.example/pub-modulenames/laws.FnSortSuffix", spec := "fnSortSuffix", inPlace := ["internal/bytealg.abigen_runtime_cmpstring"], unfollowed := true, recurses := true, plainKeys := false, apart := false, narrowed := true }
def FnSortSuffixUptoSaid : Prop := fnSortSuffixUptoRow.holds Try.pinned (OpenSpec.upto fnSortSuffixSpec)

/-- 'laws.FnSortTwice', WHERE WHAT IT READS IS OF BULK AT MOST 1048576: true; the input reads as it did. -/
def fnSortTwiceUptoRow : OpenClaim := { program := "ytdinaphcglmhoaa", sum := "db1ad102bec72ef74ea8be60fc00749151c7f9cc37143b7ad52caf5249c4a16c", func := "loop.example/pub-modulenames/laws.FnSortTwice", spec := "fnSortTwice", inPlace := ["internal/bytealg.abigen_runtime_cmpstring"], unfollowed := true, recurses := true, plainKeys := false, apart := false, narrowed := true }
def FnSortTwiceUptoSaid : Prop := fnSortTwiceUptoRow.holds Try.pinned (OpenSpec.upto fnSortTwiceSpec)

end Rows
end Go.Proofs.Ytdinaphcglmhoaa
