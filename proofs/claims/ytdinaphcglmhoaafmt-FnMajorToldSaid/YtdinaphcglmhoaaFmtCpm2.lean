/-
  The walks of impl's two.
-/
import Derived.Test.YtdinaphcglmhoaaFmtCpm
namespace Go.Proofs.YtdinaphcglmhoaaFmt
open Go.RowKit Go.Extern.Stop Go.Stop Go.Extern
set_option linter.unusedVariables false

set_option maxHeartbeats 1000000 in
theorem implcpm_any (F : Interp) (v m : ByteArray) (w : World) (hF : F.answers w.tape) (hv : v.size ≤ 4294967296) (hm : m.size ≤ 4294967296) :
    Calls Tryf.prog 5 #[.string v, .string m] w fun e w' => e = .returned (.bool (cpmB v.data.toList m.data.toList)) ∧ Below w.heap.size w w' := by
  have C := Lib.hid (cpm_any F v m w hF hv hm)
  go_enter Tryf.func5, Tryf.ntmps5
  go_wp2_with fail
  refine C.out.mono ?_
  rintro e w1 ⟨h, hb⟩
  have HB := Lib.hid hb
  clear hb
  cases hc : cpmB v.data.toList m.data.toList with
  | true =>
    rw [hc, if_pos rfl] at h
    subst h
    have HC := Lib.hid hc
    clear hc
    go_wp2
    go_ret
    exact ⟨ret_bool HC.out.symm, HB.out⟩
  | false =>
    rw [hc, if_neg (by decide)] at h
    obtain ⟨t, x, rfl⟩ := h
    have HC := Lib.hid hc
    clear hc
    go_wp2
    go_ret
    exact ⟨ret_bool HC.out.symm, HB.out⟩
set_option maxHeartbeats 1000000 in
theorem matchpm_any (F : Interp) (v m : ByteArray) (w : World) (hF : F.answers w.tape) (hv : v.size ≤ 4294967296) (hm : m.size ≤ 4294967296) :
    Calls Tryf.prog 6 #[.string v, .string m] w fun e w' => e = .returned (.bool (cpmB v.data.toList m.data.toList)) ∧ Below w.heap.size w w' := by
  have C := Lib.hid (cpm_any F v m w hF hv hm)
  go_enter Tryf.func6, Tryf.ntmps6
  go_wp2_with (go_at_call 10; go_in)
  refine C.out.mono ?_
  rintro e w1 ⟨h, hb⟩
  have HB := Lib.hid hb
  clear hb
  cases hc : cpmB v.data.toList m.data.toList with
  | true =>
    rw [hc, if_pos rfl] at h
    subst h
    have HC := Lib.hid hc
    clear hc
    go_wp2
    go_ret
    exact ⟨ret_bool HC.out.symm, HB.out⟩
  | false =>
    rw [hc, if_neg (by decide)] at h
    obtain ⟨t, x, rfl⟩ := h
    have HC := Lib.hid hc
    clear hc
    go_wp2
    go_ret
    exact ⟨ret_bool HC.out.symm, HB.out⟩
end Go.Proofs.YtdinaphcglmhoaaFmt
