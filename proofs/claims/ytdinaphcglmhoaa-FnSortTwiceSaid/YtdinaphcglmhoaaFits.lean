/-
  The walks of laws.zzFits2, laws.zzFits1.
-/
import Derived.Test.YtdinaphcglmhoaaPv
import Derived.Test.YtdinaphcglmhoaaSmallP
import Derived.Test.YtdinaphcglmhoaaProg
import Derived.Test.YtdinaphcglmhoaaFrame
import Derived.WalkKit
import Derived.WalkSpells
import Derived.WalkLawsBesides
namespace Go.Proofs.Ytdinaphcglmhoaa
open Go.RowKit
set_option linter.unusedVariables false

def fits1 (x : PV) : Bool := decide (x.1.size ≤ 2147483647) && decide (x.2.size ≤ 2147483647)
def FitE (b : Bool) (w : World) (e : Ending) (w' : World) : Prop := e = .returned (.bool b) ∧ Hid (Below w.heap.size w w')

theorem zzFits2_any (p v : ByteArray) (w : World) (hp : p.size ≤ maxLen) (hv : v.size ≤ maxLen) :
    Calls Try.prog 37 #[.agg #[.string p, .string v]] w (FitE (fits1 (p, v)) w) := by
  unfold maxLen at hp hv
  have B := Lib.hid (fun o => below_al (Below.refl w.heap.size w) o)
  by_cases h1 : p.size ≤ 2147483647
  · by_cases h2 : v.size ≤ 2147483647
    · have E : Hid (fits1 (p, v) = true) := Lib.hid (by simp [fits1, h1, h2])
      go_enter Try.func37, Try.ntmps37
      go_wp2
      go_ret
      exact ⟨ret_bool E.out.symm, Lib.hid (B.out _)⟩
    · have E : Hid (fits1 (p, v) = false) := Lib.hid (by simp [fits1, h2])
      go_enter Try.func37, Try.ntmps37
      go_wp2
      go_ret
      exact ⟨ret_bool E.out.symm, Lib.hid (B.out _)⟩
  · have E : Hid (fits1 (p, v) = false) := Lib.hid (by simp [fits1, h1])
    go_enter Try.func37, Try.ntmps37
    go_wp2
    go_ret
    exact ⟨ret_bool E.out.symm, Lib.hid (B.out _)⟩

/-- the list: its row, or nil -/
def InAt (w : World) (p : Option Addr) (l : List PV) : Prop := ∀ (j : Nat) (h : j < l.length), ∃ b o, p = some ⟨b, o, none⟩ ∧ b < w.heap.size ∧ w.cell? ⟨b, o + j * 2, none⟩ = some (.string l[j].1) ∧ w.cell? ⟨b, o + j * 2 + 1, none⟩ = some (.string l[j].2)

set_option maxRecDepth 8000 in
set_option maxHeartbeats 2000000 in
theorem zzFits1_any (l : List PV) (b o cap : Nat) (w : World) (hin : PvAt w b o l) (hl : l.length ≤ maxLen) (hs : ∀ x ∈ l, x.1.size ≤ maxLen ∧ x.2.size ≤ maxLen) :
    Calls Try.prog 22 #[.slice (some ⟨b, o, none⟩) l.length cap] w (FitE (decide (l.length ≤ 2147483647) && l.all fits1) w) := by
  have HIN := Lib.hid hin.2
  have hbw := hin.1
  have HS := Lib.hid hs
  have HF := Lib.hid (fun p v w hp hv => zzFits2_any p v w hp hv)
  have B0 := Lib.hid (Below.refl w.heap.size w)
  unfold maxLen at hl
  clear hin hs
  by_cases h0 : l.length ≤ 2147483647
  · have E : Hid ((decide (l.length ≤ 2147483647) && l.all fits1) = l.all fits1) := Lib.hid (by simp [h0])
    generalize (decide (l.length ≤ 2147483647) && l.all fits1) = L at *
    go_enter Try.func22, Try.ntmps22
    go_wp2
    go_loopw [10] (fun i wr => ∃ k : Nat, k ≤ l.length ∧ i = .int .i64 k ∧ Hid ((l.take k).all fits1 = true) ∧ Hid (Below w.heap.size w wr)) (fun i _ => l.length - (intOf i).toNat)
    case atStart => exact ⟨0, Nat.zero_le _, rfl, Lib.hid (by simp), B0⟩
    case round =>
      obtain ⟨k, hk, rfl, ha, hb⟩ := hrel
      by_cases hlt : k < l.length
      · have hc := HIN.out k hlt
        obtain ⟨x0, x1, c0, c1, e1, m1, m2⟩ : ∃ x0 x1, wr.cell? ⟨b, o + k * 2, none⟩ = some (.string x0) ∧ wr.cell? ⟨b, o + k * 2 + 1, none⟩ = some (.string x1) ∧ Hid (l[k] = (x0, x1)) ∧ x0.size ≤ maxLen ∧ x1.size ≤ maxLen :=
          ⟨l[k].1, l[k].2, (hb.out.cell (p := ⟨b, o + k * 2, none⟩) hbw).trans hc.1, (hb.out.cell (p := ⟨b, o + k * 2 + 1, none⟩) hbw).trans hc.2, Lib.hid rfl, (HS.out _ (List.getElem_mem _)).1, (HS.out _ (List.getElem_mem _)).2⟩
        have F := Lib.hid (fun w => HF.out x0 x1 w m1 m2)
        have HB := Lib.hid (fun (o : Obj) => below_al hb.out o)
        cases hf : fits1 (x0, x1) with
        | true =>
          rw [hf] at F
          have HA : Hid ((l.take (k + 1)).all fits1 = true) := Lib.hid (by
            rw [List.take_succ_eq_append_getElem hlt, List.all_append, ha.out, e1.out]; simp [hf])
          clear hc ha e1 m1 m2
          go_wp2_with fail
          refine (F.out _).mono ?_
          rintro e w2 ⟨rfl, hb2⟩
          have HB2 := Lib.hid (below_tr (HB.out _) hb2.out)
          clear hb2 hb c0 c1
          go_wp2
          go_roundw
          case rel => exact ⟨k + 1, by omega, by go_num, HA, HB2⟩
          case measure => simp [intOf]; omega
        | false =>
          rw [hf] at F
          have EE : Hid (L = false) := Lib.hid (by
            rw [E.out, List.all_eq_false]; exact ⟨l[k], List.getElem_mem _, by rw [e1.out, hf]; simp⟩)
          clear hc ha e1 m1 m2
          go_wp2_with fail
          refine (F.out _).mono ?_
          rintro e w2 ⟨rfl, hb2⟩
          have HB2 := Lib.hid (below_tr (HB.out _) hb2.out)
          clear hb2 hb c0 c1
          go_wp2
          go_ret
          exact ⟨ret_bool EE.out.symm, HB2⟩
      · have EE : Hid (L = true) := Lib.hid (by
          rw [E.out]; have := ha.out; rwa [List.take_of_length_le (by omega)] at this)
        go_wp2
        go_ret
        exact ⟨ret_bool EE.out.symm, hb⟩
  · have E : Hid ((decide (l.length ≤ 2147483647) && l.all fits1) = false) := Lib.hid (by simp [h0])
    generalize (decide (l.length ≤ 2147483647) && l.all fits1) = L at *
    go_enter Try.func22, Try.ntmps22
    go_wp2
    go_ret
    exact ⟨ret_bool E.out.symm, B0⟩

theorem zzFits1_nil (a : Option Addr) (cap : Nat) (w : World) :
    Calls Try.prog 22 #[.slice a 0 cap] w (FitE true w) := by
  have B0 := Lib.hid (Below.refl w.heap.size w)
  go_enter Try.func22, Try.ntmps22
  go_wp2
  go_loopw [10] (fun i wr => i = .int .i64 0 ∧ wr = w) (fun _ _ => 0)
  case atStart => exact ⟨rfl, rfl⟩
  case round =>
    obtain ⟨rfl, rfl⟩ := hrel
    go_wp2
    go_ret
    exact ⟨rfl, B0⟩
end Go.Proofs.Ytdinaphcglmhoaa
