/-
  The walk of spec.glob.
-/
import Derived.Test.YtdinaphcglmhoaaDoorGlobQ
import Derived.Test.YtdinaphcglmhoaaDoorSemP
import Derived.Test.YtdinaphcglmhoaaDoorIn
import Derived.Deep.QuietTactic
import Derived.BigQuiet
namespace Go.Proofs.YtdinaphcglmhoaaDoor
open Go.RowKit
set_option linter.unusedVariables false

theorem str_cons' {v : ByteArray} {c : UInt8} {r : Bs} (h : v.data.toList = c :: r) : 0 < v.size ∧ v.toList.isEmpty = false ∧ (∀ h0 : 0 < v.size, v[0] = c) ∧ (v.extract 1 v.size).data.toList = r := by
  have h0 : 0 < v.size := by rw [← size_len, h]; simp
  refine ⟨h0, by rw [Lib.toList_data, h]; rfl, fun h0 => ?_, by rw [extract_drop, h]; rfl⟩
  have := byte_at' v 0 h0
  rw [h] at this; simp at this; exact this.symm
theorem str_nil {v : ByteArray} (h : v.data.toList = []) : v.toList.isEmpty = true ∧ v.size ≤ 0 := ⟨by rw [Lib.toList_data, h]; rfl, by rw [← size_len, h]; simp⟩

def GlE (b : Bool) (w : World) (e : Ending) (w' : World) : Prop := e = .returned (.bool b) ∧ Below w.heap.size w w'
theorem below_g {g : Nat} {w w' : World} (h : Below g w w') (n : Nat) : Below g w (w'.drewN n) := by
  induction n with
  | zero => exact h
  | succ n ih => exact ih.drew

set_option maxHeartbeats 4000000 in
theorem glob_any (n : Nat) : ∀ (p s : ByteArray) (w : World), p.size ≤ 4294967296 → s.size ≤ 4294967296 → p.size + s.size < n →
    Calls Tryd.prog 14 #[.string p, .string s] w fun e w' => e = .returned (.bool (globP p.data.toList s.data.toList)) ∧ ∃ q, w' = w.drewN q := by
  induction n with
  | zero => intro p s w _ _ h; omega
  | succ n ih =>
    intro p s w hp hs hn
    have IH := Lib.hid ih
    clear ih
    cases hpl : p.data.toList with
    | nil =>
      obtain ⟨pe, _⟩ := str_nil hpl
      have E : Hid (globP [] s.data.toList = s.toList.isEmpty) := Lib.hid (by rw [globP_nil, Lib.toList_data])
      clear hpl
      go_enter Tryd.func14, Tryd.ntmps14
      go_wp2_with fail
      go_ret
      exact ⟨ret_bool E.out.symm, 0, rfl⟩
    | cons c ps =>
      obtain ⟨p0, pe, pv, px⟩ := str_cons' hpl
      have hpx : (p.extract 1 p.size).size ≤ 4294967296 := by simp; omega
      have hps : (p.extract 1 p.size).size = p.size - 1 := by simp
      by_cases hc : c = 42
      · subst hc
        have e42 : ((p[0].toNat : Int) == 42) = true := by rw [pv p0]; rfl
        have R := fun wx => IH.out (p.extract 1 p.size) s wx hpx hs (by omega)
        rw [px] at R
        cases hsl : s.data.toList with
        | nil =>
          obtain ⟨se, s0⟩ := str_nil hsl
          rw [hsl] at R
          have E : Hid (globP (42 :: ps) [] = globP ps []) := Lib.hid (by rw [globP_star]; rfl)
          obtain ⟨g, hg⟩ : ∃ g, globP ps [] = g := ⟨_, rfl⟩
          rw [hg] at R E
          have R' := Lib.hid R
          clear hpl hsl R hg pv px hps
          cases g
          all_goals
            go_enter Tryd.func14, Tryd.ntmps14
            go_wp2_with fail
            refine (R'.out _).mono ?_
            rintro e w' ⟨rfl, q, rfl⟩
            go_wp2_with fail
            go_ret
            exact ⟨ret_bool E.out.symm, q, rfl⟩
        | cons d ss =>
          obtain ⟨s0, se, sv, sx⟩ := str_cons' hsl
          have hsx : (s.extract 1 s.size).size ≤ 4294967296 := by simp; omega
          have hss : (s.extract 1 s.size).size = s.size - 1 := by simp
          rw [hsl] at R
          have R2 := fun wx => IH.out p (s.extract 1 s.size) wx hp hsx (by omega)
          rw [sx, hpl] at R2
          have E : Hid (globP (42 :: ps) (d :: ss) = (globP ps (d :: ss) || (d != 47 && globP (42 :: ps) ss))) := Lib.hid (by rw [globP_star, globP_star]; rfl)
          obtain ⟨g, hg⟩ : ∃ g, globP ps (d :: ss) = g := ⟨_, rfl⟩
          obtain ⟨g2, hg2⟩ : ∃ g2, globP (42 :: ps) ss = g2 := ⟨_, rfl⟩
          rw [hg] at R E
          rw [hg2] at R2 E
          have R' := Lib.hid R
          have R2' := Lib.hid R2
          have hd : ((s[0].toNat : Int) != 47) = (d != 47) := by
            rw [sv s0, Bool.eq_iff_iff]; simp
            constructor
            · intro h e; exact h (by rw [e]; rfl)
            · intro h e; exact h (UInt8.toNat_inj.1 (by show d.toNat = 47; omega))
          obtain ⟨z, hz⟩ : ∃ z, (d != 47) = z := ⟨_, rfl⟩
          rw [hz] at hd E
          clear hpl hsl R R2 hg hg2 pv px hps sv sx hss hz
          cases g
          · cases z
            · go_enter Tryd.func14, Tryd.ntmps14
              go_wp2_with fail
              refine (R'.out _).mono ?_
              rintro e w' ⟨rfl, q, rfl⟩
              go_wp2_with fail
              go_ret
              exact ⟨ret_bool E.out.symm, q, rfl⟩
            · go_enter Tryd.func14, Tryd.ntmps14
              go_wp2_with fail
              refine (R'.out _).mono ?_
              rintro e w' ⟨rfl, q, rfl⟩
              go_wp2_with fail
              refine (R2'.out _).mono ?_
              rintro e w' ⟨rfl, q2, rfl⟩
              go_wp2_with fail
              go_ret
              exact ⟨ret_bool (by rw [E.out]; rfl), q + q2, rfl⟩
          · go_enter Tryd.func14, Tryd.ntmps14
            go_wp2_with fail
            refine (R'.out _).mono ?_
            rintro e w' ⟨rfl, q, rfl⟩
            go_wp2_with fail
            go_ret
            exact ⟨ret_bool E.out.symm, q, rfl⟩
      · have e42 : ((p[0].toNat : Int) == 42) = false := by
          rw [pv p0, beq_eq_false_iff_ne]; intro e; exact hc (UInt8.toNat_inj.1 (by show c.toNat = 42; omega))
        cases hsl : s.data.toList with
        | nil =>
          obtain ⟨se, s0⟩ := str_nil hsl
          have E : Hid (globP (c :: ps) [] = false) := Lib.hid (globP_no ps hc)
          clear hpl hsl pv px hps hc
          go_enter Tryd.func14, Tryd.ntmps14
          go_wp2_with fail
          go_quiet (fail)
          go_wp2_with fail
          go_ret
          exact ⟨ret_bool E.out.symm, _, rfl⟩
        | cons d ss =>
          obtain ⟨s0, se, sv, sx⟩ := str_cons' hsl
          have hsx : (s.extract 1 s.size).size ≤ 4294967296 := by simp; omega
          have hss : (s.extract 1 s.size).size = s.size - 1 := by simp
          have R := fun wx => IH.out (p.extract 1 p.size) (s.extract 1 s.size) wx hpx hsx (by omega)
          rw [px, sx] at R
          have E : Hid (globP (c :: ps) (d :: ss) = (oneB c d && globP ps ss)) := Lib.hid (globP_one ps d ss hc)
          obtain ⟨g, hg⟩ : ∃ g, globP ps ss = g := ⟨_, rfl⟩
          rw [hg] at R E
          have R' := Lib.hid R
          have hd47 : ((s[0].toNat : Int) != 47) = (d != 47) := by
            rw [sv s0, Bool.eq_iff_iff]; simp
            constructor
            · intro h e; exact h (by rw [e]; rfl)
            · intro h e; exact h (UInt8.toNat_inj.1 (by show d.toNat = 47; omega))
          have h63 : ((p[0].toNat : Int) == 63) = (c == 63) := by
            rw [pv p0, Bool.eq_iff_iff]; simp
            constructor
            · intro h; exact UInt8.toNat_inj.1 (by show c.toNat = 63; omega)
            · intro e; rw [e]; rfl
          have hcd : ((p[0].toNat : Int) == (s[0].toNat : Int)) = (c == d) := by
            rw [pv p0, sv s0, Bool.eq_iff_iff]; simp
            constructor
            · intro h; exact UInt8.toNat_inj.1 (by omega)
            · intro e; rw [e]
          have O : Hid (oneB c d = ((c == 63) && (d != 47) || (c == d))) := Lib.hid rfl
          clear hpl hsl R hg pv px hps sv sx hss hc
          generalize (d != 47) = z at *
          generalize (c == 63) = q63 at *
          generalize (c == d) = qd at *
          rcases (show (q63 = true ∧ z = true) ∨ (((q63 = true ∧ z = false) ∨ q63 = false) ∧ qd = true) ∨ (((q63 = true ∧ z = false) ∨ q63 = false) ∧ qd = false) by cases q63 <;> cases z <;> cases qd <;> simp) with ⟨rfl, rfl⟩ | ⟨hz, rfl⟩ | ⟨hz, rfl⟩
          · have E2 : Hid (globP (c :: ps) (d :: ss) = g) := Lib.hid (by rw [E.out, O.out]; rfl)
            go_enter Tryd.func14, Tryd.ntmps14
            go_wp2_with fail
            go_quiet ((go_at_call 14; exact Calls.quiet_of (R'.out _)))
            go_wp2_with fail
            go_ret
            exact ⟨ret_bool E2.out.symm, _, rfl⟩
          · have E2 : Hid (globP (c :: ps) (d :: ss) = g) := Lib.hid (by rw [E.out, O.out]; simp)
            rcases hz with ⟨rfl, rfl⟩ | rfl
            all_goals
              go_enter Tryd.func14, Tryd.ntmps14
              go_wp2_with fail
              go_quiet ((go_at_call 14; exact Calls.quiet_of (R'.out _)))
              go_wp2_with fail
              go_ret
              exact ⟨ret_bool E2.out.symm, _, rfl⟩
          · have E2 : Hid (globP (c :: ps) (d :: ss) = false) := Lib.hid (by
              rw [E.out, O.out]
              rcases hz with ⟨rfl, rfl⟩ | rfl <;> simp)
            rcases hz with ⟨rfl, rfl⟩ | rfl
            all_goals
              go_enter Tryd.func14, Tryd.ntmps14
              go_wp2_with fail
              go_quiet (fail)
              go_wp2_with fail
              go_ret
              exact ⟨ret_bool E2.out.symm, _, rfl⟩
end Go.Proofs.YtdinaphcglmhoaaDoor
