/-
  The walk of laws.number.
-/
import Derived.Test.YtdinaphcglmhoaaNumP
import Derived.Test.YtdinaphcglmhoaaSmall
namespace Go.Proofs.Ytdinaphcglmhoaa
open Go.RowKit

set_option maxRecDepth 100000 in
set_option maxHeartbeats 1000000 in
theorem number_any : ∀ (n : Nat) (w : World), n < 1000000000 →
    Calls Try.prog 17 #[.int .i64 n] w fun e w' => e = .returned (.string (tx (decL n))) ∧ Below w.heap.size w w' := by
  intro n
  induction n using Nat.strongRecOn with
  | _ n ih =>
    intro w hn
    have IH := Lib.hid ih
    clear ih
    by_cases h : n < 10
    · have E := Lib.hid (decL_lt h)
      have hback := run_convert_bytes_back (P := Try.prog) (w.alloc (.cells #[.int .u8 ((dch n).toNat : Int)] 5)) 59 9 5 ⟨w.heap.size, 0, none⟩ 1 [dch n] Try.underlying59 Try.underlying5 Try.underlying9 (fun j hj => by
        have : j = 0 := by simp at hj; omega
        subst this
        exact (cell_one_new _ _ _) 0 _ rfl)
      have e48 : ((dch n).toNat : Int) = 48 + (n : Int) := by rw [dig_toNat h]; omega
      rw [e48, show [dch n].length = 1 from rfl] at hback
      clear e48
      have ew : IntKind.u8.wrap (48 + (n : Int)) = 48 + (n : Int) := by simp [IntKind.wrap, IntKind.bits, IntKind.signed]; omega
      have hb := Lib.hid (below_al (Below.refl w.heap.size w) (.cells #[.int .u8 (48 + (n : Int))] 5))
      go_enter Try.func17, Try.ntmps17
      go_wp2
      go_ret
      exact ⟨by rw [E.out]; rfl, hb.out⟩
    · have h10 : 10 ≤ n := by omega
      have E := Lib.hid (decL_ge h10)
      clear h
      go_enter Try.func17, Try.ntmps17
      go_wp2_with fail
      have e1 : (n : Int) / 10 = ((n / 10 : Nat) : Int) := by omega
      rw [e1]
      refine (IH.out (n / 10) (by omega) _ (by omega)).mono ?_
      rintro e w1 ⟨rfl, hb1⟩
      have HB1 := Lib.hid hb1
      clear hb1 e1
      go_wp2_with fail
      have e1 : (n : Int) % 10 = ((n % 10 : Nat) : Int) := by omega
      rw [e1]
      refine (IH.out (n % 10) (by omega) _ (by omega)).mono ?_
      rintro e w2 ⟨rfl, hb2⟩
      have HB2 := Lib.hid (below_tr HB1.out hb2)
      clear hb2 e1 HB1
      rw [decL_mod]
      have hl : (decL (n / 10)).length ≤ 9 := decL_le _ 9 (by omega) (by omega)
      go_wp2
      go_ret
      exact ⟨ret_str (by rw [E.out]; apply tx_eq; simp [ByteArray.data_append]), HB2.out⟩
end Go.Proofs.Ytdinaphcglmhoaa
