/-
  The walk of spec.Prefix.
-/
import Derived.Test.YtdinaphcglmhoaaDoorGlobW
import Derived.Test.YtdinaphcglmhoaaDoorCut
import Derived.Test.YtdinaphcglmhoaaDoorSmall
import Derived.Test.YtdinaphcglmhoaaDoorMppP
import Derived.Deep.LoopGhost
import Derived.Deep.DeepCutAuto
namespace Go.Proofs.YtdinaphcglmhoaaDoor
open Go.RowKit
set_option linter.unusedVariables false

def PreE (g t : Bs) (w : World) (e : Ending) (w' : World) : Prop := ∃ n : Int, e = .returned (.int .i64 n) ∧ PrefR g t n ∧ Below w.heap.size w w'
theorem PrefR.zero (g t : Bs) : PrefR g t 0 := .inl rfl
theorem ascii_cat (a b : ByteArray) : asciiB (a ++ b).data.toList = (asciiB a.data.toList && asciiB b.data.toList) := by
  unfold asciiB
  simp [ByteArray.data_append, List.all_append]

/-- all pieces so far are fine -/
def AllOk (L : List Bs) (k : Nat) : Prop := ∀ p ∈ L.take k, pieceOk p
def NoneOk (L : List Bs) (t : Bs) (k : Nat) : Prop := ∀ p ∈ L.take k, ¬ OkP p t
def NoneAt (v t : Bs) (k : Nat) : Prop := ∀ i, i < k → i ≤ t.length → (i = t.length ∨ t[i]? = some 47) → globP v (t.take i) = false
theorem AllOk.step {L : List Bs} {k : Nat} (h : AllOk L k) (hk : k < L.length) (hp : pieceOk L[k]) : AllOk L (k + 1) := by
  intro p hpm
  rw [List.take_add_one, List.getElem?_eq_getElem hk] at hpm
  rcases List.mem_append.1 hpm with h1 | h1
  · exact h p h1
  · have : p = L[k] := by simpa using h1
    rw [this]; exact hp
theorem NoneOk.step {L : List Bs} {t : Bs} {k : Nat} (h : NoneOk L t k) (hk : k < L.length) (hp : ¬ OkP L[k] t) : NoneOk L t (k + 1) := by
  intro p hpm
  rw [List.take_add_one, List.getElem?_eq_getElem hk] at hpm
  rcases List.mem_append.1 hpm with h1 | h1
  · exact h p h1
  · have : p = L[k] := by simpa using h1
    rw [this]; exact hp
theorem NoneOk.all {g t : Bs} {k : Nat} (h : NoneOk (cutL g 44) t k) (hk : (cutL g 44).length ≤ k) : ¬ AnyG g t := by
  rintro ⟨p, hp, ho⟩
  exact h p (by rw [List.take_of_length_le hk]; exact hp) ho
theorem NoneAt.step {v t : Bs} {k : Nat} (h : NoneAt v t k) (hp : k ≤ t.length → (k = t.length ∨ t[k]? = some 47) → globP v (t.take k) = false) : NoneAt v t (k + 1) := by
  intro i hi hl hb
  by_cases e : i = k
  · subst e; exact hp hl hb
  · exact h i (by omega) hl hb
theorem NoneAt.all {q t : Bs} {k : Nat} (h : NoneAt (trimS q) t k) (hk : t.length < k) : ¬ OkP q t := by
  rintro ⟨_, i, hl, hb, hg⟩
  rw [h i (by omega) hl hb] at hg; cases hg
theorem any_of {g t p : Bs} {k : Nat} (hp : p ∈ cutL g 44) (hne : trimS p ≠ []) (hk : k ≤ t.length) (hb : k = t.length ∨ t[k]? = some 47) (hg : globP (trimS p) (t.take k) = true) : AnyG g t :=
  ⟨p, hp, hne, k, hk, hb, hg⟩
theorem tail2 {l : Bs} (h : dbl l) : 1 < l.length ∧ l[l.length - 1]? = some 47 ∧ l[l.length - 2]? = some 47 := by
  obtain ⟨q, rfl⟩ := h
  refine ⟨by simp, ?_, ?_⟩
  · rw [List.getElem?_append_right (by simp)]; simp
  · rw [List.getElem?_append_right (by simp)]; simp
theorem trim_yes {p : ByteArray} (h : 0 < p.size) (h47 : p[p.size - 1] = 47) : (p.extract 0 (p.size - 1)).data.toList = trimS p.data.toList := by
  have e : p.data.toList = p.data.toList.take (p.size - 1) ++ [47] := by
    have := take_snoc p (p.size - 1) (by omega)
    rw [show p.size - 1 + 1 = p.size from by omega, take_all p p.size (Nat.le_refl _), h47] at this
    exact this
  rw [extract_take]
  conv => rhs; rw [e]
  rw [trimS_snoc]
theorem trim_no {p : ByteArray} (h : ∀ h : 0 < p.size, p[p.size - 1] ≠ 47) : p.data.toList = trimS p.data.toList := by
  unfold trimS
  rw [if_neg]
  intro hs
  obtain ⟨q, hq⟩ := (suf47 _).1 hs
  have hz : p.size = q.length + 1 := by rw [← size_len, hq]; simp
  exact h (by omega) (by
    have e2 := byte_at' p (p.size - 1) (by omega)
    rw [hq, List.getElem?_append_right (by omega)] at e2
    have e3 : p.size - 1 - q.length = 0 := by omega
    rw [e3] at e2
    injection e2 with e2
    exact e2.symm)

set_option maxRecDepth 100000 in
set_option maxHeartbeats 16000000 in
theorem prefix_any (g t : ByteArray) (w : World) (hg : g.size ≤ 2147483647) (ht : t.size ≤ 2147483647) :
    Calls Tryd.prog 7 #[.string g, .string t] w (PreE g.data.toList t.data.toList w) := by
  have HB0 := Lib.hid (Below.refl w.heap.size w)
  have hgm : g.size ≤ maxLen := by unfold maxLen; omega
  have hgt : (g ++ t).size ≤ maxLen := by unfold maxLen; simp; omega
  have hgt2 : g.size + t.size ≤ 4294967296 := by omega
  have hg4 : g.size ≤ 4294967296 := by omega
  have ht4 : t.size ≤ 4294967296 := by omega
  have AS := fun wx => ascii_any (g ++ t) wx hgt
  have I1 := fun wx => in_any g 91 wx hgm
  have I2 := fun wx => in_any g 92 wx hgm
  have E := Lib.hid (ascii_cat g t)
  obtain ⟨A, hA⟩ : ∃ A, asciiB (g ++ t).data.toList = A := ⟨_, rfl⟩
  obtain ⟨i1, h1⟩ : ∃ b, inB g.data.toList 91 = b := ⟨_, rfl⟩
  obtain ⟨i2, h2⟩ : ∃ b, inB g.data.toList 92 = b := ⟨_, rfl⟩
  rw [hA] at AS
  rw [h1] at I1
  rw [h2] at I2
  have AS' := Lib.hid AS
  have I1' := Lib.hid I1
  have I2' := Lib.hid I2
  have HA := Lib.hid hA
  have H1 := Lib.hid h1
  have H2 := Lib.hid h2
  clear AS I1 I2 hA h1 h2
  by_cases hbad : A = false ∨ i1 = true ∨ i2 = true ∨ 60 < g.size ∨ 60 < t.size
  · have F : Hid (PrefR g.data.toList t.data.toList 0) := Lib.hid (PrefR.zero _ _)
    have hb2 : A = false ∨ (A = true ∧ i1 = true) ∨ (A = true ∧ i1 = false ∧ i2 = true) ∨ (A = true ∧ i1 = false ∧ i2 = false ∧ 60 < g.size) ∨ (A = true ∧ i1 = false ∧ i2 = false ∧ g.size ≤ 60 ∧ 60 < t.size) := by
      cases A
      · exact .inl rfl
      · cases i1
        · cases i2
          · rcases hbad with h | h | h | h | h
            · cases h
            · cases h
            · cases h
            · exact .inr (.inr (.inr (.inl ⟨rfl, rfl, rfl, h⟩)))
            · by_cases h' : 60 < g.size
              · exact .inr (.inr (.inr (.inl ⟨rfl, rfl, rfl, h'⟩)))
              · exact .inr (.inr (.inr (.inr ⟨rfl, rfl, rfl, by omega, h⟩)))
          · exact .inr (.inr (.inl ⟨rfl, rfl, rfl⟩))
        · exact .inr (.inl ⟨rfl, rfl⟩)
    clear hbad
    rcases hb2 with rfl | ⟨rfl, rfl⟩ | ⟨rfl, rfl, rfl⟩ | ⟨rfl, rfl, rfl, z1⟩ | ⟨rfl, rfl, rfl, z1, z2⟩
    · go_enter Tryd.func7, Tryd.ntmps7
      go_wp2_with fail
      refine (AS'.out _).mono ?_
      rintro e w' ⟨rfl, rfl⟩
      go_wp2
      go_ret
      exact ⟨0, rfl, F.out, HB0.out⟩
    · go_enter Tryd.func7, Tryd.ntmps7
      go_wp2_with fail
      refine (AS'.out _).mono ?_
      rintro e w' ⟨rfl, rfl⟩
      go_wp2_with fail
      refine (I1'.out _).mono ?_
      rintro e w' ⟨rfl, rfl⟩
      go_wp2
      go_ret
      exact ⟨0, rfl, F.out, HB0.out⟩
    all_goals
      go_enter Tryd.func7, Tryd.ntmps7
      go_wp2_with fail
      refine (AS'.out _).mono ?_
      rintro e w' ⟨rfl, rfl⟩
      go_wp2_with fail
      refine (I1'.out _).mono ?_
      rintro e w' ⟨rfl, rfl⟩
      go_wp2_with fail
      refine (I2'.out _).mono ?_
      rintro e w' ⟨rfl, rfl⟩
      go_wp2
      go_ret
      exact ⟨0, rfl, F.out, HB0.out⟩
  · have hok : A = true ∧ i1 = false ∧ i2 = false ∧ g.size ≤ 60 ∧ t.size ≤ 60 := by
      refine ⟨?_, ?_, ?_, ?_, ?_⟩
      · cases A
        · exact absurd (.inl rfl) hbad
        · rfl
      · cases i1
        · rfl
        · exact absurd (.inr (.inl rfl)) hbad
      · cases i2
        · rfl
        · exact absurd (.inr (.inr (.inl rfl))) hbad
      · rcases Nat.lt_or_ge 60 g.size with h | h
        · exact absurd (.inr (.inr (.inr (.inl h)))) hbad
        · exact h
      · rcases Nat.lt_or_ge 60 t.size with h | h
        · exact absurd (.inr (.inr (.inr (.inr h)))) hbad
        · exact h
    clear hbad
    obtain ⟨rfl, rfl, rfl, hg60, ht60⟩ := hok
    have CGG : Hid (CG g.data.toList t.data.toList) := Lib.hid (by
      have hA := E.out.symm.trans HA.out
      rw [Bool.and_eq_true] at hA
      refine ⟨⟨fun h => ?_, fun h => ?_⟩, hA.2⟩
      · have := inB_true h; rw [H1.out] at this; cases this
      · have := inB_true h; rw [H2.out] at this; cases this)
    clear hgt E HA H1 H2
    go_enter Tryd.func7, Tryd.ntmps7
    go_wp2_with fail
    refine (AS'.out _).mono ?_
    rintro e w' ⟨rfl, rfl⟩
    go_wp2_with fail
    refine (I1'.out _).mono ?_
    rintro e w' ⟨rfl, rfl⟩
    go_wp2_with fail
    refine (I2'.out _).mono ?_
    rintro e w' ⟨rfl, rfl⟩
    clear AS' I1' I2'
    go_wp2_with fail
    refine (cut_any t 47 w ht4).mono ?_
    rintro e w1 ⟨g1, cap1, rfl, hr1, hb⟩
    have HB1 := Lib.hid hb
    have hl1 : (cutL t.data.toList 47).length ≤ 61 := by have := cutL_len t.data.toList 47; rw [size_len] at this; omega
    generalize cutL t.data.toList 47 = L1 at *
    clear hb
    go_wp2_with fail
    go_loopg [38] L1.length (fun n i wr => ∃ k : Nat, k ≤ L1.length ∧ L1.length - k ≤ n ∧ i = .int .i64 k ∧ w1 = wr)
    case atStart => exact ⟨0, Nat.zero_le _, Nat.sub_le _ _, rfl, rfl⟩
    case round =>
      obtain ⟨k, hk, hkn, rfl, rfl⟩ := hrel
      by_cases hlt : k < L1.length
      · have hcell := hr1.at_ k hlt
        generalize tx L1[k] = p at *
        rcases bool_or p.toList.isEmpty with he | he
        · clear hr1
          go_wp2
          go_ret
          exact ⟨0, rfl, PrefR.zero _ _, HB1.out⟩
        · clear hr1
          go_wp2
          go_roundg (L1.length - (k + 1))
          case rel => exact ⟨k + 1, by omega, Nat.le_refl _, by go_num, rfl⟩
          case measure => omega
      · clear hr1
        go_wp2_with fail
        refine (cut_any g 44 w1 hg4).mono ?_
        rintro e w2 ⟨g2, cap2, rfl, hr2, hb⟩
        have HB2 := Lib.hid (below_tr HB1.out hb)
        obtain ⟨L, hL⟩ : ∃ L, cutL g.data.toList 44 = L := ⟨_, rfl⟩
        have hl2 : L.length ≤ 61 := by rw [← hL]; have := cutL_len g.data.toList 44; rw [size_len] at this; omega
        have HLS : Hid (∀ x ∈ L, x.length ≤ 60) := Lib.hid (by
          intro x hx
          rw [← hL] at hx
          have := cutL_size g.data.toList 44 x hx
          rw [size_len] at this; omega)
        rw [hL] at hr2 ⊢
        have HL := Lib.hid hL
        clear hb hL
        go_wp2_with fail
        go_loopg [48] L.length (fun n i wr => ∃ k : Nat, k ≤ L.length ∧ L.length - k ≤ n ∧ i = .int .i64 k ∧ TxRow wr g2 L ∧ Hid (AllOk L k) ∧ Hid (Below w.heap.size w wr))
        case atStart => exact ⟨0, Nat.zero_le _, Nat.sub_le _ _, rfl, hr2, Lib.hid (by intro p hp; simp at hp), HB2⟩
        case round =>
          obtain ⟨k, hk, hkn, rfl, hr, HO, HB3⟩ := hrel
          obtain ⟨w3, rfl⟩ : ∃ w3 : World, w3 = wr := ⟨_, rfl⟩
          clear hr2
          by_cases hlt : k < L.length
          · have hcell := hr.at_ k hlt
            have HP := Lib.hid (tx_data L[k])
            have hps : (tx L[k]).size ≤ 60 := by rw [tx_size]; exact HLS.out _ (List.getElem_mem hlt)
            generalize tx L[k] = p at *
            have hp4 : p.size ≤ 4294967296 := by omega
            have HR := Lib.hid hr
            clear hr
            go_wp2_with fail
            refine (cut_any p 42 w3 hp4).mono ?_
            rintro e w4 ⟨g4, cap4, rfl, _, hb⟩
            have HR4 := Lib.hid (HR.out.below hb)
            have HB4 := Lib.hid (below_tr HB3.out hb)
            have hl4 : (cutL p.data.toList 42).length ≤ 61 := by have := cutL_len p.data.toList 42; rw [size_len] at this; omega
            generalize (cutL p.data.toList 42).length = n4 at *
            clear hb
            by_cases h5 : 5 < n4
            · go_wp2
              go_ret
              exact ⟨0, rfl, PrefR.zero _ _, HB4.out⟩
            · have h5' : n4 ≤ 5 := by omega
              clear h5
              have ways : (∃ h : 1 < p.size, ((p[p.size - 1].toNat : Int) == 47) = true ∧ ((p[p.size - 2].toNat : Int) == 47) = true) ∨
                  (((∃ h : 1 < p.size, ((p[p.size - 1].toNat : Int) == 47) = true ∧ ((p[p.size - 2].toNat : Int) == 47) = false) ∨ (∃ h : 1 < p.size, ((p[p.size - 1].toNat : Int) == 47) = false) ∨ p.size ≤ 1) ∧ ¬ dbl p.data.toList) := by
                by_cases hz : 1 < p.size
                · rcases bool_or ((p[p.size - 1].toNat : Int) == 47) with z1 | z1
                  · rcases bool_or ((p[p.size - 2].toNat : Int) == 47) with z2 | z2
                    · exact .inl ⟨hz, z1, z2⟩
                    · refine .inr ⟨.inl ⟨hz, z1, z2⟩, fun hd => ?_⟩
                      obtain ⟨_, _, e⟩ := tail2 hd
                      rw [size_len, byte_at' p (p.size - 2) (by omega)] at e
                      injection e with e
                      rw [e] at z2; exact absurd z2 (by decide)
                  · refine .inr ⟨.inr (.inl ⟨hz, z1⟩), fun hd => ?_⟩
                    obtain ⟨_, e, _⟩ := tail2 hd
                    rw [size_len, byte_at' p (p.size - 1) (by omega)] at e
                    injection e with e
                    rw [e] at z1; exact absurd z1 (by decide)
                · refine .inr ⟨.inr (.inr (by omega)), fun hd => ?_⟩
                  obtain ⟨e, _, _⟩ := tail2 hd
                  rw [size_len] at e; omega
              rcases ways with ⟨z0, z1, z2⟩ | ⟨zz, hnd⟩
              · go_wp2
                go_ret
                exact ⟨0, rfl, PrefR.zero _ _, HB4.out⟩
              · rcases bool_or (p.toList == [47]) with q | q
                · have hnd' := Lib.hid hnd
                  clear hnd
                  rcases zz with ⟨z0, z1, z2⟩ | ⟨z0, z1⟩ | z0
                  all_goals
                    go_wp2
                    go_ret
                    exact ⟨0, rfl, PrefR.zero _ _, HB4.out⟩
                · have F : Hid (AllOk L (k + 1)) := Lib.hid (HO.out.step hlt (by
                    rw [← HP.out]
                    exact ⟨by rw [Lib.toList_data] at q; simpa using q, hnd⟩))
                  clear hnd
                  rcases zz with ⟨z0, z1, z2⟩ | ⟨z0, z1⟩ | z0
                  all_goals
                    go_wp2
                    go_roundg (L.length - (k + 1))
                    case rel => exact ⟨k + 1, by omega, Nat.le_refl _, by go_num, HR4.out, F, HB4⟩
                    case measure => omega
          · have PO : Hid (PrefOk g.data.toList t.data.toList) := Lib.hid ⟨CGG.out, by rw [size_len]; exact hg60, by rw [size_len]; exact ht60, by
              rw [HL.out]
              intro p hp
              exact HO.out p (by rw [List.take_of_length_le (by omega)]; exact hp)⟩
            clear hr HO
            go_wp2_with fail
            refine (cut_any g 44 w3 hg4).mono ?_
            rintro e w5 ⟨g5, cap5, rfl, hr5, hb⟩
            have HB5 := Lib.hid (below_tr HB3.out hb)
            rw [HL.out] at hr5 ⊢
            clear hb
            go_wp2_with fail
            go_loopg [85] L.length (fun n i wr => ∃ k : Nat, k ≤ L.length ∧ L.length - k ≤ n ∧ i = .int .i64 k ∧ TxRow wr g5 L ∧ Hid (NoneOk L t.data.toList k) ∧ Hid (Below w.heap.size w wr))
            case atStart => exact ⟨0, Nat.zero_le _, Nat.sub_le _ _, rfl, hr5, Lib.hid (by intro p hp; simp at hp), HB5⟩
            case round =>
              obtain ⟨k, hk, hkn, rfl, hr, HN, HB6⟩ := hrel
              obtain ⟨w6, rfl⟩ : ∃ w6 : World, w6 = wr := ⟨_, rfl⟩
              obtain ⟨gk9, rfl⟩ : ∃ gk9, gk9 = gk := ⟨_, rfl⟩
              clear hr5
              by_cases hlt : k < L.length
              · have hcell := hr.at_ k hlt
                have HP := Lib.hid (tx_data L[k])
                have HIN : Hid (L[k] ∈ cutL g.data.toList 44) := Lib.hid (by rw [HL.out]; exact List.getElem_mem hlt)
                have hps : (tx L[k]).size ≤ 60 := by rw [tx_size]; exact HLS.out _ (List.getElem_mem hlt)
                generalize tx L[k] = p at *
                have HR := Lib.hid hr
                clear hr
                go_upto_region 18 with (fail)
                go_cut [10, 99] (fun v x wx => ∃ bb : Bool, x = .bool bb ∧ v = .string p ∧ wx = w6 ∧ ((bb = true ∧ ∃ h : 0 < p.size, p[p.size - 1] = 47) ∨ (bb = false ∧ ∀ h : 0 < p.size, p[p.size - 1] ≠ 47)))
                case first =>
                  by_cases h0 : 0 < p.size
                  · rcases bool_or ((p[p.size - 1].toNat : Int) == 47) with z | z
                    · have F : Hid (p[p.size - 1] = 47) := Lib.hid (byte_eq (b := 47) z)
                      go_wp2_with fail
                      go_meet
                      case rel => exact ⟨true, rfl, rfl, rfl, .inl ⟨rfl, h0, F.out⟩⟩
                    · have F : Hid (p[p.size - 1] ≠ 47) := Lib.hid (byte_ne (b := 47) z)
                      go_wp2_with fail
                      go_meet
                      case rel => exact ⟨false, rfl, rfl, rfl, .inr ⟨rfl, fun _ => F.out⟩⟩
                  · have h0' : p.size ≤ 0 := by omega
                    go_wp2_with fail
                    go_meet
                    case rel => exact ⟨false, rfl, rfl, rfl, .inr ⟨rfl, fun h => absurd h h0⟩⟩
                case rest =>
                  obtain ⟨bb, rfl, rfl, hwc, hbb⟩ := hcut
                  obtain rfl := hwc
                  go_upto_if 99 with (fail)
                  go_cut [10] (fun v wx => ∃ q : ByteArray, v = .string q ∧ wx = wc ∧ q.size ≤ 60 ∧ Hid (q.data.toList = trimS p.data.toList))
                  case first =>
                    rcases hbb with ⟨rfl, h0, h47⟩ | ⟨rfl, hno⟩
                    · have F := Lib.hid (trim_yes h0 h47)
                      clear h47
                      go_wp2_with fail
                      go_meet
                      case rel => exact ⟨p.extract 0 (p.size - 1), rfl, rfl, by simp; omega, F⟩
                    · have F := Lib.hid (trim_no hno)
                      clear hno
                      go_wp2_with fail
                      go_meet
                      case rel => exact ⟨p, rfl, rfl, hps, F⟩
                  case rest =>
                    obtain ⟨q, rfl, hwc, hq60, HQ⟩ := hcut
                    obtain rfl := hwc
                    obtain ⟨w7, rfl⟩ : ∃ w7 : World, w7 = wc := ⟨_, rfl⟩
                    clear hbb
                    rcases bool_or q.toList.isEmpty with he | he
                    · have F : Hid (NoneOk L t.data.toList (k + 1)) := Lib.hid (HN.out.step hlt (okP_empty (by
                        rw [← HP.out, ← HQ.out]; rw [Lib.toList_data, List.isEmpty_iff] at he; exact he)))
                      go_wp2
                      go_roundg (L.length - (k + 1))
                      case rel => exact ⟨k + 1, by omega, Nat.le_refl _, by go_num, HR.out, F, HB6⟩
                      case measure => omega
                    · have HNE : Hid (trimS p.data.toList ≠ []) := Lib.hid (by rw [← HQ.out]; intro h; rw [Lib.toList_data, h] at he; cases he)
                      go_wp2_with fail
                      go_loopg [110] (t.size + 1) (fun n i wr => ∃ j : Nat, j ≤ t.size + 1 ∧ t.size + 1 - j ≤ n ∧ i = .int .i64 j ∧ Hid (TxRow wr g5 L) ∧ Hid (NoneAt (trimS p.data.toList) t.data.toList j) ∧ Hid (Below w.heap.size w wr))
                      case atStart => exact ⟨0, Nat.zero_le _, Nat.sub_le _ _, rfl, HR, Lib.hid (by intro i hi; omega), HB6⟩
                      case round =>
                        obtain ⟨j, hj, hjn, rfl, HR8, HA8, HB8⟩ := hrel
                        obtain ⟨w8, rfl⟩ : ∃ w8 : World, w8 = wr := ⟨_, rfl⟩
                        by_cases hjt : j ≤ t.size
                        · have hx4 : (t.extract 0 j).size ≤ 4294967296 := by simp; omega
                          have hq4 : q.size ≤ 4294967296 := by omega
                          have GL := fun wx => glob_any (q.size + (t.extract 0 j).size + 1) q (t.extract 0 j) wx hq4 hx4 (by omega)
                          rw [HQ.out, extract_take] at GL
                          obtain ⟨b, hb⟩ : ∃ b, globP (trimS p.data.toList) (t.data.toList.take j) = b := ⟨_, rfl⟩
                          rw [hb] at GL
                          have GL' := Lib.hid GL
                          have HGB := Lib.hid hb
                          clear GL hb
                          have ways : (∃ h : j = t.size, True) ∨ (∃ h : j < t.size, ((t[j].toNat : Int) == 47) = true) ∨ (∃ h : j < t.size, ((t[j].toNat : Int) == 47) = false) := by
                            by_cases h : j < t.size
                            · rcases bool_or ((t[j].toNat : Int) == 47) with z | z
                              · exact .inr (.inl ⟨h, z⟩)
                              · exact .inr (.inr ⟨h, z⟩)
                            · exact .inl ⟨by omega, trivial⟩
                          have hbd : ∀ (hh : j = t.size ∨ t.data.toList[j]? = some 47), b = true → Hid (PrefR g.data.toList t.data.toList 1) := fun hh hbt => Lib.hid (.inr ⟨PO.out, .inl ⟨rfl, any_of (by rw [HP.out]; exact HIN.out) HNE.out (k := j) (by rw [size_len]; exact hjt) (by rw [size_len]; exact hh) (by rw [HGB.out]; exact hbt)⟩⟩)
                          have hnx : (b = false ∨ ¬ (j = t.size ∨ t.data.toList[j]? = some 47)) → Hid (NoneAt (trimS p.data.toList) t.data.toList (j + 1)) := fun hh => Lib.hid (HA8.out.step (fun _ hb2 => by
                            rw [size_len] at hb2
                            rcases hh with hh | hh
                            · rw [HGB.out]; exact hh
                            · exact absurd hb2 hh))
                          have HBD := Lib.hid hbd
                          have HNX := Lib.hid hnx
                          clear hbd hnx
                          rcases ways with ⟨hje, _⟩ | ⟨hjl, z⟩ | ⟨hjl, z⟩
                          · have ej : ((j : Int) == (t.size : Int)) = true := by rw [hje]; simp
                            have HJ := Lib.hid hje
                            clear hje
                            cases b
                            · have F := HNX.out (.inl rfl)
                              go_wp2_with fail
                              refine (GL'.out _).mono ?_
                              rintro e w' ⟨rfl, dq, rfl⟩
                              go_wp2_with fail
                              go_roundg (t.size + 1 - (j + 1))
                              case rel => exact ⟨j + 1, by omega, Nat.le_refl _, by go_num, Lib.hid (HR8.out.below (below_g (Below.refl _ _) _)), F, Lib.hid (below_g HB8.out _)⟩
                              case measure => omega
                            · have F := HBD.out (.inl HJ.out) rfl
                              go_wp2_with fail
                              refine (GL'.out _).mono ?_
                              rintro e w' ⟨rfl, dq, rfl⟩
                              go_wp2_with fail
                              go_ret
                              exact ⟨1, rfl, F.out, below_g HB8.out _⟩
                          · have ej : ((j : Int) == (t.size : Int)) = false := beq_eq_false_iff_ne.2 (by omega)
                            have HAT : Hid (t.data.toList[j]? = some 47) := Lib.hid (by rw [byte_at' t j hjl]; congr 1; exact byte_eq (b := 47) z)
                            cases b
                            · have F := HNX.out (.inl rfl)
                              go_wp2_with fail
                              refine (GL'.out _).mono ?_
                              rintro e w' ⟨rfl, dq, rfl⟩
                              go_wp2_with fail
                              go_roundg (t.size + 1 - (j + 1))
                              case rel => exact ⟨j + 1, by omega, Nat.le_refl _, by go_num, Lib.hid (HR8.out.below (below_g (Below.refl _ _) _)), F, Lib.hid (below_g HB8.out _)⟩
                              case measure => omega
                            · have F := HBD.out (.inr HAT.out) rfl
                              go_wp2_with fail
                              refine (GL'.out _).mono ?_
                              rintro e w' ⟨rfl, dq, rfl⟩
                              go_wp2_with fail
                              go_ret
                              exact ⟨1, rfl, F.out, below_g HB8.out _⟩
                          · have ej : ((j : Int) == (t.size : Int)) = false := beq_eq_false_iff_ne.2 (by omega)
                            have F := HNX.out (.inr (by
                              rintro (h | h)
                              · omega
                              · rw [byte_at' t j hjl] at h; injection h with h; rw [h] at z; exact absurd z (by decide)))
                            go_wp2_with fail
                            go_roundg (t.size + 1 - (j + 1))
                            case rel => exact ⟨j + 1, by omega, Nat.le_refl _, by go_num, HR8, F, HB8⟩
                            case measure => omega
                        · have F : Hid (NoneOk L t.data.toList (k + 1)) := Lib.hid (HN.out.step hlt (by
                            rw [← HP.out]
                            exact HA8.out.all (by rw [size_len]; omega)))
                          go_wp2_with fail
                          go_roundg (L.length - (k + 1))
                          case rel => exact ⟨k + 1, by omega, Nat.le_refl _, by go_num, HR8.out, F, HB8⟩
                          case measure => omega
              · have F : Hid (PrefR g.data.toList t.data.toList 2) := Lib.hid (.inr ⟨PO.out, .inr ⟨rfl, by
                  have h := HN.out
                  rw [← HL.out] at h
                  exact h.all (by rw [HL.out]; omega)⟩⟩)
                clear hr
                go_wp2_with fail
                go_ret
                exact ⟨2, rfl, F.out, HB6.out⟩
end Go.Proofs.YtdinaphcglmhoaaDoor
