/-
  The walks of semver.Major, semver.Build.
-/
import Derived.Test.YtdinaphcglmhoaaFmtDecP
import Derived.Test.YtdinaphcglmhoaaFmtParse
namespace Go.Proofs.YtdinaphcglmhoaaFmt
open Go.RowKit
set_option linter.unusedVariables false
set_option linter.unusedSimpArgs false

def majV (l : Bs) : Bs := match parseV l with | none => [] | some p => l.take (1 + p.major.length)
def bldOf (l : Bs) : Bs := match parseV l with | none => [] | some p => p.build

theorem dec_major {l : Bs} {p : Sv} (h : parseV l = some p) : 1 + p.major.length ≤ l.length ∧ l.take (1 + p.major.length) = 118 :: p.major := by
  rcases parseV_dec h with ⟨_, _, _, _, _, _, rfl⟩ | ⟨_, _, _, _, _, _, rfl⟩ | ⟨_, _, _, _, _, _, rfl⟩
  all_goals
    constructor
    · simp; omega
    · rw [Nat.add_comm]; simp
theorem dec_build {l : Bs} {p : Sv} (h : parseV l = some p) : p.build.length ≤ l.length := by
  rcases parseV_dec h with ⟨_, _, _, _, hb, _, rfl⟩ | ⟨_, _, _, hb, _, _, rfl⟩ | ⟨_, _, _, _, _, _, rfl⟩
  · rw [hb]; simp
  · rw [hb]; simp
  · simp; omega
theorem dec_parts {l : Bs} {p : Sv} (h : parseV l = some p) : p.major.length ≤ l.length ∧ p.short.length ≤ 4 := by
  have := (dec_major h).1
  rcases parseV_dec h with ⟨hs, _⟩ | ⟨hs, _⟩ | ⟨hs, _⟩
  all_goals (rw [hs]; exact ⟨by omega, by simp⟩)

set_option maxHeartbeats 1000000 in
theorem major_any (s : ByteArray) (w : World) (hs : s.size ≤ 4294967296) :
    Calls Tryf.prog 17 #[.string s] w fun e w' => e = .returned (.string (tx (majV s.data.toList))) ∧ Below w.heap.size w w' := by
  go_enter Tryf.func17, Tryf.ntmps17
  go_wp2_with fail
  refine (parse_any _ _ hs).mono ?_
  rintro e w1 ⟨hE, hb⟩
  unfold ParE at hE
  cases hP : parseV s.data.toList with
  | none =>
    have E : Hid (majV s.data.toList = []) := Lib.hid (by unfold majV; rw [hP])
    rw [hP] at hE
    obtain ⟨a, b, c, d, f, g, rfl⟩ := hE
    have HB := Lib.hid (below_tr hb (below_al (Below.refl _ _) (.cells #[.string a, .string b, .string c, .string d, .string f, .string g] 45)))
    clear hb hP
    unfold failVal
    go_wp2
    go_ret
    exact ⟨by rw [E.out]; rfl, HB.out⟩
  | some p =>
    obtain ⟨h1, h2⟩ := dec_major hP
    have E : Hid (majV s.data.toList = (s.extract 0 (1 + p.major.length)).data.toList) := Lib.hid (by unfold majV; rw [hP, extract_take])
    rw [hP] at hE
    have hE' : e = .returned (svVal p) := hE
    clear hE
    subst hE'
    rw [size_len] at h1
    unfold svVal
    have HB := Lib.hid (below_tr hb (below_al (Below.refl _ _) (.cells #[.string (tx p.major), .string (tx p.minor), .string (tx p.patch), .string (tx p.short), .string (tx p.pre), .string (tx p.build)] 45)))
    clear hb hP h2
    go_wp2
    go_ret
    exact ⟨ret_str (by rw [E.out, tx_of]), HB.out⟩

set_option maxHeartbeats 1000000 in
theorem build_any (s : ByteArray) (w : World) (hs : s.size ≤ 4294967296) :
    Calls Tryf.prog 18 #[.string s] w fun e w' => e = .returned (.string (tx (bldOf s.data.toList))) ∧ Below w.heap.size w w' := by
  go_enter Tryf.func18, Tryf.ntmps18
  go_wp2_with fail
  refine (parse_any _ _ hs).mono ?_
  rintro e w1 ⟨hE, hb⟩
  unfold ParE at hE
  cases hP : parseV s.data.toList with
  | none =>
    have E : Hid (bldOf s.data.toList = []) := Lib.hid (by unfold bldOf; rw [hP])
    rw [hP] at hE
    obtain ⟨a, b, c, d, f, g, rfl⟩ := hE
    have HB := Lib.hid (below_tr hb (below_al (Below.refl _ _) (.cells #[.string a, .string b, .string c, .string d, .string f, .string g] 45)))
    clear hb hP
    unfold failVal
    go_wp2
    go_ret
    exact ⟨by rw [E.out]; rfl, HB.out⟩
  | some p =>
    have E : Hid (bldOf s.data.toList = p.build) := Lib.hid (by unfold bldOf; rw [hP])
    rw [hP] at hE
    have hE' : e = .returned (svVal p) := hE
    clear hE
    subst hE'
    unfold svVal
    have HB := Lib.hid (below_tr hb (below_al (Below.refl _ _) (.cells #[.string (tx p.major), .string (tx p.minor), .string (tx p.patch), .string (tx p.short), .string (tx p.pre), .string (tx p.build)] 45)))
    clear hb hP
    go_wp2
    go_ret
    exact ⟨ret_str (by rw [E.out]), HB.out⟩

end Go.Proofs.YtdinaphcglmhoaaFmt
