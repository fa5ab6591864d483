/-
  The functions of package spec, and of the packages under proof, as plain functions on lists of bytes. No program in sight.
-/
import Derived.WalkKit
namespace Go.Proofs.Ytdinaphcglmhoaa

abbrev Bs := List UInt8

/-- a text of bytes -/
def tx (l : Bs) : ByteArray := ⟨l.toArray⟩
@[simp] theorem tx_data (l : Bs) : (tx l).data.toList = l := by simp [tx]
@[simp] theorem tx_size (l : Bs) : (tx l).size = l.length := by simp [tx, ByteArray.size]
theorem tx_of (s : ByteArray) : tx s.data.toList = s := by cases s; simp [tx]
theorem tx_eq {s : ByteArray} {l : Bs} (h : s.data.toList = l) : s = tx l := by rw [← h, tx_of]

def inB (l : Bs) (b : UInt8) : Bool := l.contains b
theorem inB_true {l : Bs} {b : UInt8} (h : b ∈ l) : inB l b = true := by simpa [inB] using h
theorem inB_false {l : Bs} {b : UInt8} (h : b ∉ l) : inB l b = false := by simpa [inB] using h
theorem inB_iff {l : Bs} {b : UInt8} : inB l b = true ↔ b ∈ l := by simp [inB]

theorem take_snoc (s : ByteArray) (k : Nat) (h : k < s.size) : s.data.toList.take (k + 1) = s.data.toList.take k ++ [s[k]] := by
  rw [List.take_succ_eq_append_getElem (by simpa using h)]; rfl
theorem take_all (s : ByteArray) (k : Nat) (h : s.size ≤ k) : s.data.toList.take k = s.data.toList := by
  rw [List.take_of_length_le (by simpa using h)]
theorem get_mem (s : ByteArray) (k : Nat) (h : k < s.size) : s[k] ∈ s.data.toList := by
  have : s[k] = s.data.toList[k]'(by simpa using h) := rfl
  rw [this]; exact List.getElem_mem _
theorem byte_at' (s : ByteArray) (k : Nat) (h : k < s.size) : s.data.toList[k]? = some s[k] := by
  rw [List.getElem?_eq_getElem (by simpa using h)]; rfl
theorem byte_eq {a b : UInt8} (h : ((a.toNat : Int) == (b.toNat : Int)) = true) : a = b := by
  have : (a.toNat : Int) = b.toNat := by simpa using h
  exact UInt8.toNat_inj.1 (by omega)
theorem byte_ne {a b : UInt8} (h : ((a.toNat : Int) == (b.toNat : Int)) = false) : a ≠ b := by
  rintro rfl; simp at h

/-- spec.All's test of one byte -/
def okB (sm gr : Bool) (oth : Bs) (c : UInt8) : Bool :=
  (sm && decide (97 ≤ (c.toNat : Int)) && decide ((c.toNat : Int) ≤ 122)) || (gr && decide (65 ≤ (c.toNat : Int)) && decide ((c.toNat : Int) ≤ 90)) ||
  (decide (48 ≤ (c.toNat : Int)) && decide ((c.toNat : Int) ≤ 57)) || inB oth c
def allB (l : Bs) (sm gr : Bool) (oth : Bs) : Bool := l.all (okB sm gr oth)
theorem allB_snoc {l : Bs} {sm gr : Bool} {oth : Bs} {c : UInt8} (h : allB l sm gr oth = true) (hc : okB sm gr oth c = true) : allB (l ++ [c]) sm gr oth = true := by
  simp [allB] at h ⊢; exact ⟨h, hc⟩
theorem allB_false {l : Bs} {sm gr : Bool} {oth : Bs} {c : UInt8} (h : c ∈ l) (hc : okB sm gr oth c = false) : allB l sm gr oth = false := by
  simp [allB]; exact ⟨c, h, hc⟩

end Go.Proofs.Ytdinaphcglmhoaa
