/-
  The last step of every law: nothing that was there has turned, so the arguments read as they did.
-/
import Derived.WalkKit
import Derived.ProofKit
import Derived.OpenShut
import Derived.ShutString
import Derived.Lib.Strings
namespace Go.Proofs.Ytdinaphcglmhoaa
open Go.ChangeShapes Go.WideShapes Go.ChangeAt Go.RowKit

theorem law_post {H : Type} {enc : TypeId × Value → H} {P : Program} {f : Func} {s : ChangeSpec} {W W' : World} {args : Array Value} {v : Value} {ds gs : List (DataW H)} {before pa pv : List MemPlace}
    (hW : DataW.Whole enc P f.params.toList s.vars false W args.toList ds gs before)
    (hres : DataW.TrodAll enc P W' W.heap.size (fun _ => false) false f.resultTypes.toList (v.resultList f.resultTypes.size) (s.fn H (ds ++ gs)).results [])
    (hargs : DataW.TrodAll enc P W' 0 (fun b => decide (b < W.heap.size)) true f.params.toList args.toList (s.fn H (ds ++ gs)).args pa)
    (hvars : DataW.TrodVars enc P W' (fun b => decide (b < W.heap.size)) s.vars (s.fn H (ds ++ gs)).vars pv)
    (hb : Below W.heap.size W W') : s.post enc P f false true false false W args v W' :=
  ⟨ds, gs, before, [], pa, pv, hW, hres, hargs, hvars, hb.frame _, fun h => by cases h⟩

theorem below_al {w w' : World} (h : Below w.heap.size w w') (o : Obj) : Below w.heap.size w (w'.alloc o) := h.alloc h.size o
theorem ret_bool {a b : Bool} (h : a = b) : Ending.returned (.bool a) = .returned (.bool b) := by rw [h]
theorem ret_int {k : IntKind} {a b : Int} (h : a = b) : Ending.returned (.int k a) = .returned (.int k b) := by rw [h]
theorem ret_str {a b : ByteArray} (h : a = b) : Ending.returned (.string a) = .returned (.string b) := by rw [h]

end Go.Proofs.Ytdinaphcglmhoaa
