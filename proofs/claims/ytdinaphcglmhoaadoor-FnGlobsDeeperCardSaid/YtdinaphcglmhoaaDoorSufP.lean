/-
  Beginnings and ends of texts: plain part.
-/
import Derived.Test.YtdinaphcglmhoaaDoorSmallP
namespace Go.Proofs.YtdinaphcglmhoaaDoor
def sufB (p l : Bs) : Bool := decide (p.length ≤ l.length) && (l.drop (l.length - p.length) == p)
end Go.Proofs.YtdinaphcglmhoaaDoor
