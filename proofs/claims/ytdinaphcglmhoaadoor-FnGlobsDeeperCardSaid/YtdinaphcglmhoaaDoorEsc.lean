/-
  What path.Match finds in the library's variables; the walk of path.getEsc.
-/
import Derived.Test.YtdinaphcglmhoaaDoorGlobQ
import Derived.Test.YtdinaphcglmhoaaDoorZz
import Derived.Test.YtdinaphcglmhoaaDoorShelf
import Derived.Lib.QuoteLoop
import Derived.Lib.TrimU
namespace Go.Proofs.YtdinaphcglmhoaaDoor
open Go.RowKit
set_option linter.unusedVariables false

/-- the variables: unicode/utf8's tables, path.ErrBadPattern -/
structure Glo (w : World) : Prop where
  tabs : Lib.Utf8Tabs 2 3 w
  err : ∃ a, w.cell? ⟨1, 0, none⟩ = some (.iface 57 (.pointer (some a)))
theorem lt_of_cell {w : World} {b o : Nat} {v : Value} (h : w.cell? ⟨b, o, none⟩ = some v) : b < w.heap.size := by
  rcases Nat.lt_or_ge b w.heap.size with h' | h'
  · exact h'
  · simp [World.cell?, Array.getElem?_eq_none h'] at h
theorem Glo.below {w w' : World} (h : Glo w) (hb : Below w.heap.size w w') : Glo w' :=
  ⟨Utf8Tabs_below h.tabs hb, by
    obtain ⟨a, ha⟩ := h.err
    exact ⟨a, (hb.cell (p := ⟨1, 0, none⟩) (lt_of_cell ha)).trans ha⟩⟩

/-- nil, or an error behind a pointer -/
def IsErr (v : Value) : Prop := v = .nilIface ∨ ∃ a, v = .iface 57 (.pointer (some a))

def DecE (s : ByteArray) (w : World) (e : Ending) (w' : World) : Prop := ∃ (r : Int) (n : Nat), e = .returned (.tuple #[.int .i32 r, .int .i64 n]) ∧ 1 ≤ n ∧ n ≤ s.size ∧ (∀ h : 0 < s.size, (s[0].toNat : Int) < 128 → n = 1) ∧ Below w.heap.size w w'
theorem dec_any (s : ByteArray) (w : World) (hG : Glo w) (h0 : 0 < s.size) : Calls Tryd.prog 32 #[.string s] w (DecE s w) :=
  (Tryd.utf8_DecodeRuneInString s w hG.tabs).mono fun e w' ⟨he, hb⟩ => by
    have hd : Lib.decodeGo s = Utf8.decode s 0 := by unfold Lib.decodeGo; rw [if_neg (by omega)]
    refine ⟨_, _, he, ?_, ?_, fun h hlt => ?_, hb⟩
    · rw [hd]; exact Lib.width_pos s 0
    · rw [hd]; exact Lib.width_le s h0
    · rw [hd]
      have e0 : (s.get! 0).toNat < 128 := by
        rw [Utf8W.get!_of_lt s 0 h]; omega
      unfold Utf8.decode
      simp only [Nat.add_zero]
      rw [if_pos (by omega)]

def EscE (s : ByteArray) (w : World) (e : Ending) (w' : World) : Prop := ∃ (r : Int) (rest : ByteArray) (err : Value), e = .returned (.tuple #[.int .i32 r, .string rest, err]) ∧
  ((err = .nilIface ∧ 0 < rest.size ∧ rest.size < s.size) ∨ (∃ a, err = .iface 57 (.pointer (some a)))) ∧ Below w.heap.size w w'

set_option maxHeartbeats 4000000 in
theorem esc_any (s : ByteArray) (w : World) (hG : Glo w) (hs : s.size ≤ 4294967296) :
    Calls Tryd.prog 33 #[.string s] w (EscE s w) := by
  have HB0 := Lib.hid (Below.refl w.heap.size w)
  have HG := Lib.hid hG
  obtain ⟨a, hE⟩ := hG.err
  clear hG
  have HE := Lib.hid hE
  clear hE
  by_cases h0 : 0 < s.size
  · have e0 : ((s.size : Int) == 0) = false := beq_eq_false_iff_ne.2 (by omega)
    have hk : (((s[0].toNat : Int) == 45) = true) ∨ (((s[0].toNat : Int) == 45) = false ∧ ((s[0].toNat : Int) == 93) = true) ∨ (((s[0].toNat : Int) == 45) = false ∧ ((s[0].toNat : Int) == 93) = false ∧ ((s[0].toNat : Int) == 92) = true) ∨ (((s[0].toNat : Int) == 45) = false ∧ ((s[0].toNat : Int) == 93) = false ∧ ((s[0].toNat : Int) == 92) = false) := by
      cases ((s[0].toNat : Int) == 45) <;> cases ((s[0].toNat : Int) == 93) <;> cases ((s[0].toNat : Int) == 92) <;> simp
    rcases hk with h1 | ⟨h1, h2⟩ | ⟨h1, h2, h3⟩ | ⟨h1, h2, h3⟩
    · have hE := HE.out
      go_enter Tryd.func33, Tryd.ntmps33
      go_wp2
      go_ret3
      exact ⟨0, _, _, rfl, .inr ⟨a, rfl⟩, HB0.out⟩
    · have hE := HE.out
      go_enter Tryd.func33, Tryd.ntmps33
      go_wp2
      go_ret3
      exact ⟨0, _, _, rfl, .inr ⟨a, rfl⟩, HB0.out⟩
    · by_cases h11 : s.size = 1
      · have hz : s.size - 1 = 0 := by omega
        have hz' : s.size ≤ 1 := by omega
        have hE := HE.out
        clear h11
        go_enter Tryd.func33, Tryd.ntmps33
        go_wp2
        go_ret3
        exact ⟨0, _, _, rfl, .inr ⟨a, rfl⟩, HB0.out⟩
      · have hz' : 1 < s.size := by omega
        obtain ⟨v, hv⟩ : ∃ v, v = s.extract 1 s.size := ⟨_, rfl⟩
        have hvs : v.size + 1 ≤ s.size := by rw [hv]; simp; omega
        have hv0 : 0 < v.size := by rw [hv]; simp; omega
        have D := Lib.hid (fun wx (h : Glo wx) => dec_any v wx h hv0)
        rw [hv] at D
        have HV := Lib.hid hv
        go_enter Tryd.func33, Tryd.ntmps33
        go_wp2_with fail
        rw [← hv] at D ⊢
        clear hv h11
        refine (D.out _ HG.out).mono ?_
        rintro e w1 ⟨r, n, rfl, n1, n2, _, hb⟩
        obtain ⟨a1, hE1⟩ := (HG.out.below hb).err
        have HB := Lib.hid hb
        clear hb
        by_cases hn : n < v.size
        · by_cases hr : r = 65533 ∧ n = 1
          · have r1 : (r == 65533) = true := by simpa using hr.1
            have r2 : ((n : Int) == 1) = true := by simp; omega
            clear hr
            go_wp2
            go_ret3
            exact ⟨r, _, _, rfl, .inr ⟨a1, rfl⟩, HB.out⟩
          · rcases (show (r == 65533) = false ∨ ((r == 65533) = true ∧ ((n : Int) == 1) = false) by
              by_cases h : r = 65533
              · right; exact ⟨by simpa using h, by simp; omega⟩
              · left; simpa using h) with r1 | ⟨r1, r2⟩
            all_goals
              clear hr
              go_wp2
              go_ret3
              exact ⟨r, v.extract n v.size, _, rfl, .inl ⟨rfl, by simp; omega, by simp; omega⟩, HB.out⟩
        · have hn' : n = v.size := by omega
          have hz : v.size - n = 0 := by omega
          have hn2 : v.size ≤ n := by omega
          clear hn'
          rcases (show (r == 65533) = false ∨ ((r == 65533) = true ∧ ((n : Int) == 1) = false) ∨ ((r == 65533) = true ∧ ((n : Int) == 1) = true) by
              cases (r == 65533) <;> cases ((n : Int) == 1) <;> simp) with r1 | ⟨r1, r2⟩ | ⟨r1, r2⟩
          all_goals
            go_wp2
            go_ret3
            exact ⟨r, _, _, rfl, .inr ⟨a1, rfl⟩, HB.out⟩
    · have D := Lib.hid (fun wx (h : Glo wx) => dec_any s wx h h0)
      have hvs : s.size ≤ s.size := Nat.le_refl _
      go_enter Tryd.func33, Tryd.ntmps33
      go_wp2_with fail
      refine (D.out _ HG.out).mono ?_
      rintro e w1 ⟨r, n, rfl, n1, n2, _, hb⟩
      obtain ⟨a1, hE1⟩ := (HG.out.below hb).err
      have HB := Lib.hid hb
      clear hb
      by_cases hn : n < s.size
      · by_cases hr : r = 65533 ∧ n = 1
        · have r1 : (r == 65533) = true := by simpa using hr.1
          have r2 : ((n : Int) == 1) = true := by simp; omega
          clear hr
          go_wp2
          go_ret3
          exact ⟨r, _, _, rfl, .inr ⟨a1, rfl⟩, HB.out⟩
        · rcases (show (r == 65533) = false ∨ ((r == 65533) = true ∧ ((n : Int) == 1) = false) by
            by_cases h : r = 65533
            · right; exact ⟨by simpa using h, by simp; omega⟩
            · left; simpa using h) with r1 | ⟨r1, r2⟩
          all_goals
            clear hr
            go_wp2
            go_ret3
            exact ⟨r, s.extract n s.size, _, rfl, .inl ⟨rfl, by simp; omega, by simp; omega⟩, HB.out⟩
      · have hn' : n = s.size := by omega
        have hz : s.size - n = 0 := by omega
        have hn2 : s.size ≤ n := by omega
        clear hn'
        rcases (show (r == 65533) = false ∨ ((r == 65533) = true ∧ ((n : Int) == 1) = false) ∨ ((r == 65533) = true ∧ ((n : Int) == 1) = true) by
            cases (r == 65533) <;> cases ((n : Int) == 1) <;> simp) with r1 | ⟨r1, r2⟩ | ⟨r1, r2⟩
        all_goals
          go_wp2
          go_ret3
          exact ⟨r, _, _, rfl, .inr ⟨a1, rfl⟩, HB.out⟩
  · have h0' : s.size ≤ 0 := by omega
    have e0 : ((s.size : Int) == 0) = true := beq_iff_eq.2 (by omega)
    have hE := HE.out
    clear h0
    go_enter Tryd.func33, Tryd.ntmps33
    go_wp2
    go_ret3
    exact ⟨0, _, _, rfl, .inr ⟨a, rfl⟩, HB0.out⟩
end Go.Proofs.YtdinaphcglmhoaaDoor
