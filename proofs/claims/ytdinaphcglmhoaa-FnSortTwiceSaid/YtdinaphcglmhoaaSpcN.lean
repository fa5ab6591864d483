/-
  The walk of spec.numbers at any two texts.
-/
import Derived.Test.YtdinaphcglmhoaaCmpX
import Derived.Test.YtdinaphcglmhoaaCut
import Derived.Test.YtdinaphcglmhoaaSmall
import Derived.Deep.RegionHeld3
namespace Go.Proofs.Ytdinaphcglmhoaa
open Go.RowKit
set_option linter.unusedVariables false
set_option linter.unusedSimpArgs false

theorem numbers_any (x y : ByteArray) (w : World) (hx : x.size ≤ 4294967296) (hy : y.size ≤ 4294967296) :
    Calls Try.prog 34 #[.string x, .string y] w fun e w' => e = .returned (.int .i64 (intC x.data.toList y.data.toList)) ∧ w' = w := by
  cases he : (x.toList == y.toList) with
  | true =>
    have E : Hid (intC x.data.toList y.data.toList = 0) := Lib.hid (by rw [str_eq he]; exact intC_good.self _)
    go_enter Try.func34, Try.ntmps34
    go_wp2
    go_ret
    exact ⟨ret_int E.out.symm, rfl⟩
  | false =>
    rcases Nat.lt_trichotomy x.size y.size with h | h | h
    · have E := Lib.hid (intC_lt h)
      go_enter Try.func34, Try.ntmps34
      go_wp2
      go_ret
      exact ⟨ret_int E.out.symm, rfl⟩
    · have E1 := intC_tx h
      have h1 : decide (x.size < y.size) = false := by simp; omega
      have h2 : ((x.size : Int) == (y.size : Int)) = true := by simp; omega
      cases hl : Op.bytesLess x.toList y.toList with
      | true =>
        have E : Hid (intC x.data.toList y.data.toList = -1) := Lib.hid (by rw [E1, txC_lt hl])
        clear h E1
        go_enter Try.func34, Try.ntmps34
        go_wp2
        go_ret
        exact ⟨ret_int E.out.symm, rfl⟩
      | false =>
        have E : Hid (intC x.data.toList y.data.toList = 1) := Lib.hid (by rw [E1, txC_gt hl (str_ne he)])
        clear h E1
        go_enter Try.func34, Try.ntmps34
        go_wp2
        go_ret
        exact ⟨ret_int E.out.symm, rfl⟩
    · have E := Lib.hid (intC_gt h)
      have h1 : decide (x.size < y.size) = false := by simp; omega
      have h2 : ((x.size : Int) == (y.size : Int)) = false := by simp; omega
      clear h
      go_enter Try.func34, Try.ntmps34
      go_wp2
      go_ret
      exact ⟨ret_int E.out.symm, rfl⟩

end Go.Proofs.Ytdinaphcglmhoaa
