/-
  Numbers in decimal: plain part.
-/
import Derived.Test.YtdinaphcglmhoaaSplitP
namespace Go.Proofs.Ytdinaphcglmhoaa
open Go.RowKit

/-- the figure of a number below ten -/
def dch (n : Nat) : UInt8 := UInt8.ofNat (48 + n)
def decL (n : Nat) : Bs := if n < 10 then [dch n] else decL (n / 10) ++ [dch (n % 10)]
termination_by n
decreasing_by omega
theorem decL_lt {n : Nat} (h : n < 10) : decL n = [dch n] := by rw [decL, if_pos h]
theorem decL_ge {n : Nat} (h : 10 ≤ n) : decL n = decL (n / 10) ++ [dch (n % 10)] := by rw [decL, if_neg (by omega)]
theorem decL_mod (n : Nat) : decL (n % 10) = [dch (n % 10)] := decL_lt (by omega)

theorem dig_toNat {n : Nat} (h : n < 10) : (dch n).toNat = 48 + n := by
  unfold dch; simp; omega
theorem dig_isD {n : Nat} (h : n < 10) : isD (dch n) = true := by
  unfold isD; rw [dig_toNat h]; simp; omega

theorem decL_ne (n : Nat) : decL n ≠ [] := by
  by_cases h : n < 10
  · rw [decL_lt h]; simp
  · rw [decL_ge (by omega)]; simp
theorem decL_isD (n : Nat) : ∀ c ∈ decL n, isD c = true := by
  induction n using Nat.strongRecOn with
  | _ n ih =>
    by_cases h : n < 10
    · rw [decL_lt h]; simp only [List.mem_singleton]; rintro c rfl; exact dig_isD h
    · rw [decL_ge (by omega)]
      intro c hc
      rcases List.mem_append.1 hc with hc | hc
      · exact ih (n / 10) (by omega) c hc
      · simp only [List.mem_singleton] at hc; subst hc; exact dig_isD (by omega)
/-- no needless nought ahead -/
theorem decL_head (n : Nat) (h : 1 ≤ n) : (decL n)[0]? ≠ some 48 := by
  induction n using Nat.strongRecOn with
  | _ n ih =>
    by_cases hn : n < 10
    · rw [decL_lt hn]
      intro e
      simp only [List.getElem?_cons_zero, Option.some.injEq] at e
      have := congrArg UInt8.toNat e
      rw [dig_toNat hn] at this
      have h48 : (48 : UInt8).toNat = 48 := rfl
      omega
    · rw [decL_ge (by omega)]
      have := ih (n / 10) (by omega) (by omega)
      rw [List.getElem?_append_left (List.length_pos_iff.2 (decL_ne _))]
      exact this
theorem decL_len {n : Nat} (h : 10 ≤ n) : 2 ≤ (decL n).length := by
  rw [decL_ge h]
  have := List.length_pos_iff.2 (decL_ne (n / 10))
  simp; omega
theorem decL_one {n : Nat} (h : 2 ≤ n) : decL n ≠ [49] := by
  by_cases hn : n < 10
  · rw [decL_lt hn]
    intro e
    injection e with e
    have := congrArg UInt8.toNat e
    rw [dig_toNat hn] at this
    have h49 : (49 : UInt8).toNat = 49 := rfl
    omega
  · intro e
    have := decL_len (n := n) (by omega)
    rw [e] at this
    simp at this
theorem decL_le (n : Nat) (m : Nat) (h : n < 10 ^ m) (hm : 1 ≤ m) : (decL n).length ≤ m := by
  induction m generalizing n with
  | zero => omega
  | succ m ih =>
    by_cases hn : n < 10
    · rw [decL_lt hn]; simp
    · rw [decL_ge (by omega)]
      have hm1 : 1 ≤ m := by
        rcases Nat.eq_zero_or_pos m with h0 | h0
        · subst h0; simp at h; omega
        · exact h0
      have := ih (n / 10) (by rw [Nat.pow_succ] at h; omega) hm1
      simp; omega

end Go.Proofs.Ytdinaphcglmhoaa
