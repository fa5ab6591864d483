/-
  PROVED: laws.FnMajorPrefix returns true for every number and both signs: PathMajorPrefix tells of /vN and .vN the prefix vN, and nothing of the empty text. No condition.
  The frame of this text is a shell that the kit's proof-skeleton wrote.
-/
import Derived.Test.YtdinaphcglmhoaaRows
import Derived.Test.YtdinaphcglmhoaaMaj
import Derived.Test.YtdinaphcglmhoaaNum
import Derived.Test.YtdinaphcglmhoaaSgo
import Derived.ProofKit
import Derived.OpenShut
import Derived.ShutString
namespace Go.Proofs.Ytdinaphcglmhoaa.fnMajorPrefix
open Go.ChangeShapes Go.WideShapes Go.ChangeAt Go.RowKit
open Go.ChangeMaps (open_string shut_string)
set_option linter.unusedVariables false

theorem own : ownKnob Try.prog.godebug = none := by kernel_rfl

theorem numB_dec (n : Nat) : numB (decL n) = true := by
  unfold numB
  rw [digB_iff.2 ⟨decL_ne n, decL_isD n⟩, Bool.true_and, Bool.or_eq_true, decide_eq_true_eq, bne_iff_ne]
  by_cases h : n < 1
  · left; have : n = 0 := by omega
    subst this; rw [decL_lt (by omega)]; rfl
  · right; exact decL_head n (by omega)
theorem majV_dec (n : Nat) : majV (118 :: decL n) = 118 :: decL n := by
  have h : parseV (118 :: decL n) = some ⟨decL n, [48], [48], [46, 48, 46, 48], [], []⟩ := dec_parse1 ⟨rfl, rfl, rfl, rfl, rfl, numB_dec n, rfl⟩
  unfold majV
  rw [h]
  show (118 :: decL n).take (1 + (decL n).length) = _
  rw [Nat.add_comm]; simp

theorem eq_self' (a : ByteArray) : (a.toList != a.toList) = false := by simp
theorem eq_self (a : ByteArray) : (a.toList == a.toList) = true := by simp

theorem suf_no2 {n : Nat} {c : UInt8} : sufB (⟨#[45, 117, 110, 115, 116, 97, 98, 108, 101]⟩ : ByteArray).data.toList ([46, 118] ++ decL n) = false :=
  suf_no (pre := []) rfl (decL_ne n) (decL_isD n)

set_option maxHeartbeats 2000000 in
theorem ppm (s : ByteArray) (n : Nat) (c : UInt8) (hc : c = 47 ∨ c = 46) (hl : s.data.toList = c :: 118 :: decL n) (hs : s.size ≤ 1000) (w : World) :
    Calls Try.prog 21 #[.string s] w fun e w' => e = .returned (.string (tx (118 :: decL n))) ∧ Below w.heap.size w w' := by
  obtain ⟨h0, he, hv, hx⟩ := str_cons hl
  have hx2 : s.extract 1 s.size = tx (118 :: decL n) := tx_eq hx
  have hxs : (tx (118 :: decL n)).size ≤ 4294967296 := by rw [← hx2]; simp; omega
  have hm : s.size ≤ maxLen := by unfold maxLen; omega
  have MJ := Lib.hid (fun wx => major_any (tx (118 :: decL n)) wx hxs)
  have MV : Hid (tx (majV (tx (118 :: decL n)).data.toList) = tx (118 :: decL n)) := Lib.hid (by rw [tx_data, majV_dec])
  have P := fun wx => hasPrefix_any s ⟨#[46, 118]⟩ wx hm (by decide)
  have HX := Lib.hid hx2
  have E1 := eq_self' (tx (118 :: decL n))
  rcases hc with rfl | rfl
  · have e47 : ((s[0].toNat : Int) != 47) = false := by rw [hv h0]; rfl
    have hpf : preB (⟨#[46, 118]⟩ : ByteArray).data.toList s.data.toList = false := by
      rw [hl]; unfold preB; simp
    rw [hpf] at P
    have P' := Lib.hid P
    clear P hpf hx hx2 hv hl hxs
    go_enter Try.func21, Try.ntmps21
    go_wp2_with (first | (go_at_call 42; refine (P'.out _).mono ?_; rintro e w' ⟨rfl, rfl⟩) | (go_at_call 36; go_in))
    rw [HX.out]
    refine (MJ.out _).mono ?_
    rintro e w1 ⟨rfl, hb⟩
    have HB := Lib.hid hb
    clear hb
    rw [MV.out]
    obtain ⟨T, hT⟩ : ∃ T, T = tx (118 :: decL n) := ⟨_, rfl⟩
    rw [← hT] at E1 ⊢
    have HT := Lib.hid hT
    clear hT
    go_wp2
    go_ret
    exact ⟨ret_str HT.out, HB.out⟩
  · have e47 : ((s[0].toNat : Int) != 47) = true := by rw [hv h0]; rfl
    have e46 : ((s[0].toNat : Int) != 46) = false := by rw [hv h0]; rfl
    have hpf : preB (⟨#[46, 118]⟩ : ByteArray).data.toList s.data.toList = true := by
      rw [hl]; unfold preB; simp
    rw [hpf] at P
    have P' := Lib.hid P
    have Q := fun wx => hasSuffix_any s ⟨#[45, 117, 110, 115, 116, 97, 98, 108, 101]⟩ wx hm (by decide)
    rw [hl, show (46 :: 118 :: decL n : Bs) = [46, 118] ++ decL n from rfl, suf_no2 (c := 0)] at Q
    have Q' := Lib.hid Q
    clear P Q hpf hx hx2 hv hl hxs
    go_enter Try.func21, Try.ntmps21
    go_wp2_with (first | (go_at_call 42; refine (P'.out _).mono ?_; rintro e w' ⟨rfl, rfl⟩) | (go_at_call 48; refine (Q'.out _).mono ?_; rintro e w' ⟨rfl, rfl⟩) | (go_at_call 36; go_in))
    rw [HX.out]
    refine (MJ.out _).mono ?_
    rintro e w1 ⟨rfl, hb⟩
    have HB := Lib.hid hb
    clear hb
    rw [MV.out]
    obtain ⟨T, hT⟩ : ∃ T, T = tx (118 :: decL n) := ⟨_, rfl⟩
    rw [← hT] at E1 ⊢
    have HT := Lib.hid hT
    clear hT
    go_wp2
    go_ret
    exact ⟨ret_str HT.out, HB.out⟩

set_option maxHeartbeats 2000000 in
theorem walk (n : Int) (b : Bool) (w0 : (Lit.int .u16 n).wf = true) (w : World) :
    Calls Try.prog 8 #[.int .u16 n, .bool b] w fun e w' => e = .returned (.bool true) ∧ Below w.heap.size w w' := by
  have hn : 0 ≤ n ∧ n ≤ 65535 := by simpa [Lit.wf, IntKind.min, IntKind.max, IntKind.signed, IntKind.bits] using w0
  obtain ⟨hn0, hn1⟩ := hn
  clear w0
  have hb0 := Lib.hid (Below.refl w.heap.size w)
  have NM : Hid (∀ wx, Calls Try.prog 17 #[.int .i64 n] wx fun e w' => e = .returned (.string (tx (decL n.toNat))) ∧ Below wx.heap.size wx w') := Lib.hid (fun wx => by
    have := number_any n.toNat wx (by omega)
    rw [show ((n.toNat : Nat) : Int) = n from by omega] at this; exact this)
  have hdl : (decL n.toNat).length ≤ 9 := decL_le _ 9 (by omega) (by omega)
  have K1 : Hid (∀ c : UInt8, c = 47 ∨ c = 46 → ∀ wx, Calls Try.prog 21 #[.string (⟨#[c]⟩ ++ ⟨#[118]⟩ ++ tx (decL n.toNat))] wx fun e w' => e = .returned (.string (⟨#[118]⟩ ++ tx (decL n.toNat))) ∧ Below wx.heap.size wx w') := Lib.hid (fun c hc wx => by
    have e1 : (⟨#[c]⟩ ++ ⟨#[118]⟩ ++ tx (decL n.toNat) : ByteArray).data.toList = c :: 118 :: decL n.toNat := by simp [ByteArray.data_append, tx]
    have := ppm _ n.toNat c hc e1 (by rw [← size_len, e1]; simp; omega) wx
    rw [show tx (118 :: decL n.toNat) = (⟨#[118]⟩ ++ tx (decL n.toNat)) from (tx_eq (by simp [ByteArray.data_append, tx])).symm] at this
    exact this)
  cases b
  · by_cases h2 : n < 2
    · go_enter Try.func8, Try.ntmps8
      go_wp2
      go_ret
      exact ⟨rfl, hb0.out⟩
    · have E1 := eq_self (⟨#[118]⟩ ++ tx (decL n.toNat))
      generalize decL n.toNat = D at *
      go_enter Try.func8, Try.ntmps8
      go_wp2_with fail
      refine (NM.out _).mono ?_
      rintro e w1 ⟨rfl, hb⟩
      have HB1 := Lib.hid hb
      clear hb
      go_wp2_with fail
      refine (K1.out 47 (.inl rfl) _).mono ?_
      rintro e w2 ⟨rfl, hb⟩
      have HB2 := Lib.hid (below_tr HB1.out hb)
      clear hb
      go_wp2_with fail
      refine (NM.out _).mono ?_
      rintro e w3 ⟨rfl, hb⟩
      have HB3 := Lib.hid (below_tr HB2.out hb)
      clear hb
      go_wp2
      go_ret
      exact ⟨rfl, HB3.out⟩
  · have E1 := eq_self (⟨#[118]⟩ ++ tx (decL n.toNat))
    generalize decL n.toNat = D at *
    go_enter Try.func8, Try.ntmps8
    go_wp2_with fail
    refine (NM.out _).mono ?_
    rintro e w1 ⟨rfl, hb⟩
    have HB1 := Lib.hid hb
    clear hb
    go_wp2_with fail
    refine (K1.out 46 (.inr rfl) _).mono ?_
    rintro e w2 ⟨rfl, hb⟩
    have HB2 := Lib.hid (below_tr HB1.out hb)
    clear hb
    go_wp2_with fail
    refine (NM.out _).mono ?_
    rintro e w3 ⟨rfl, hb⟩
    have HB3 := Lib.hid (below_tr HB2.out hb)
    clear hb
    go_wp2
    go_ret
    exact ⟨rfl, HB3.out⟩

set_option maxRecDepth 100000 in
theorem lifted (os : Os) (started : os.Started) (H : Type) (enc : TypeId × Value → H) :
    ReturnsInHanded {} Try.checked os 8 .any (Rows.fnMajorPrefixSpec.pre6 enc Try.prog Try.f8 Rows.fnMajorPrefixRow.domain false) (Rows.fnMajorPrefixSpec.post enc Try.prog Try.f8 false true false false) := by
  refine returnsInHanded_of_change (C := Try.checked) own started (by kernel_rfl) Try.func8
    (ChangeSpec.witness6 (enc := enc) (C := Try.checked) false ⟨#[], #[.int .u16 0, .bool false], []⟩ 8 (by kernel_rfl) (by kernel_rfl) (by kernel_rfl) (by kernel_rfl)) ?_
  intro W base args ds gs before hval0 hW hcnd _
  have hval : ∀ (j : Nat) t v, Try.f8.params[j]? = some t → args[j]? = some v → Value.okWide Try.prog W .any base t v := hval0
  have hW' := hW
  obtain ⟨p, q, hA0, hV, rfl, hfz, hnd⟩ := hW
  have hA : DataW.TrodAll enc Try.prog W 0 (fun _ => true) true Try.f8.params.toList args.toList ds p := hA0
  rw [Try.params8] at hA hval
  obtain ⟨v0, vs0, d0, ds0, p0, q0, hargs, rfl, rfl, h0, r0⟩ := trodAll_cons hA
  obtain ⟨v1, vs1, d1, ds1, p1, q1, rfl, rfl, rfl, h1, r1⟩ := trodAll_cons r0
  obtain ⟨rfl, rfl, rfl⟩ := trodAll_nil r1
  obtain rfl : args = #[v0, v1] := by cases args; simp_all
  obtain ⟨rfl, rfl⟩ := trodVars_none hV
  obtain ⟨a0, rfl, rfl, rfl, w0⟩ := open_int Try.underlying32 (hval 0 32 v0 rfl rfl) h0
  obtain ⟨a1, rfl, rfl, rfl⟩ := open_bool Try.underlying4 (hval 1 4 v1 rfl rfl) h1
  clear hA0 hval0
  simp only [List.append_nil] at hW'
  refine (walk a0 a1 w0 W).mono fun e W' ⟨he, hb⟩ => ?_
  subst he
  exact ⟨_, rfl, law_post (pa := []) (pv := []) hW' (trodAll_cons_mk (shut_bool Try.underlying4 _) trodAll_mk0) (trodAll_cons_mk (shut_int Try.underlying32 w0) (trodAll_cons_mk (shut_bool Try.underlying4 _) trodAll_mk0)) rfl hb⟩

theorem over : Rows.fnMajorPrefixRow.holds Try.pinned (OpenSpec.ofChange Rows.fnMajorPrefixSpec) :=
  OpenClaim.holds_of_wide 8 Try.f8 rfl rfl rfl rfl rfl rfl rfl ⟨rfl, rfl, rfl, rfl, rfl⟩ rfl rfl rfl rfl rfl (by kernel_rfl) Try.func8 (by kernel_rfl)
    (of_decide_eq_true (by kernel_rfl)) (by unfold Func.isWrapper; first | (rw [if_pos (by decide +kernel)]; kernel_rfl) | (rw [if_neg (by decide +kernel)]; exact ⟨rfl, rfl⟩))
    (fun os started H enc _ => lifted os started H enc)

theorem proved : Rows.FnMajorPrefixSaid :=
  over
end Go.Proofs.Ytdinaphcglmhoaa.fnMajorPrefix
