/-
  PROVED: laws.FnGlobsDeeper returns true for all patterns, targets and further patterns, as the card states it (the listed variables as the program's text lays them): what matches matches with more behind it, and with more patterns. No condition.
  The card speaks of a pruned copy of the project.
-/
import Derived.Test.YtdinaphcglmhoaaDoorFnGlobsProof
import Derived.Test.YtdinaphcglmhoaaDoorPathD
import Derived.Test.YtdinaphcglmhoaaDoorLong
namespace Go.Proofs.YtdinaphcglmhoaaDoor.fnGlobsDeeper
open Go.ChangeShapes Go.WideShapes Go.ChangeAt Go.RowKit
open Go.ChangeMaps (open_string shut_string)
set_option linter.unusedVariables false

def deepL : Bs := [100, 101, 101, 112, 101, 114]
theorem prefR_ok {g t : Bs} {n : Int} (h : PrefR g t n) (hn : n ≠ 0) : PrefOk g t := by
  rcases h with h | h
  · exact absurd h hn
  · exact h.1
theorem ascii_deep {t : Bs} (h : asciiB t = true) : asciiB (t ++ 47 :: deepL) = true := ascii_app h (by decide)
theorem yes2 {g t m : Bs} {b : Bool} (h : PrefOk g t) (ha : AnyG g t) (hr : MpR g (t ++ 47 :: deepL) b) : b = true :=
  (hr ⟨h.1.1, ascii_deep h.1.2⟩).2 (deeper1 deepL ha)
theorem yes3 {g t m : Bs} {b : Bool} (h : PrefOk g t) (hm : PrefOk m t) (ha : AnyG g t) (hr : MpR (g ++ 44 :: m) t b) : b = true :=
  (hr ⟨simP_app h.1.1 ⟨by simpa using hm.1.1.1, by simpa using hm.1.1.2⟩, h.1.2⟩).2 (deeper2 m ha)
theorem yes4 {g t m : Bs} {b : Bool} (h : PrefOk g t) (hm : PrefOk m t) (ha : AnyG g t) (hr : MpR (m ++ 44 :: 44 :: g) t b) : b = true :=
  (hr ⟨simP_app hm.1.1 ⟨by simpa using h.1.1.1, by simpa using h.1.1.2⟩, h.1.2⟩).2 (deeper3 m ha)
theorem yes5 {g t : Bs} {b : Bool} {n : Int} (h : PrefOk g t) (ha : AnyG g t) (hp : PrefR (g ++ [47]) t n) (hn : n ≠ 0) (hr : MpR (g ++ [47]) t b) : b = true :=
  (hr (prefR_ok hp hn).1).2 (deeper4 (prefR_ok hp hn).2.2.2 ha)

set_option maxRecDepth 100000 in
set_option maxHeartbeats 8000000 in
theorem walk (g t m : ByteArray) (w0 : g.size ≤ maxLen) (w1 : t.size ≤ maxLen) (w2 : m.size ≤ maxLen) (w : World) (hG : Glo w) :
    Calls Tryd.prog 4 #[.string g, .string t, .string m] w fun e w' => e = .returned (.bool true) ∧ Below w.heap.size w w' := by
  have hb0 := Lib.hid (Below.refl w.heap.size w)
  have HG := Lib.hid hG
  clear hG
  have LG := fun wx => long_any m wx w2
  unfold maxLen at w0 w1 w2
  by_cases h0 : g.size ≤ 2147483647
  · by_cases h1 : t.size ≤ 2147483647
    · by_cases h2 : m.size ≤ 2147483647
      · have P1 := Lib.hid (fun wx => prefix_any g t wx h0 h1)
        have P2 := Lib.hid (fun wx => prefix_any m t wx h2 h1)
        have IP := Lib.hid (fun wx => importPath_any t wx (by omega))
        have M1 := Lib.hid (fun wx (h : Glo wx) => implmpp_any g t wx h (by omega) (by omega))
        obtain ⟨l, hl⟩ : ∃ l, decide (500 < m.size) = l := ⟨_, rfl⟩
        rw [hl] at LG
        have LG' := Lib.hid LG
        clear LG hl
        go_enter Tryd.func4, Tryd.ntmps4
        go_wp2_with fail
        refine (P1.out _).mono ?_
        rintro e x1 ⟨n1, rfl, hR1, hb⟩
        have R1 := Lib.hid hR1
        have HB1 := Lib.hid hb
        have HG1 := Lib.hid (HG.out.below hb)
        clear hR1 hb
        by_cases hn1 : n1 = 0
        · subst hn1
          go_wp2
          go_ret
          exact ⟨rfl, HB1.out⟩
        · have e1 : (n1 == 0) = false := beq_eq_false_iff_ne.2 hn1
          have OK1 := Lib.hid (prefR_ok R1.out hn1)
          clear hn1
          go_wp2_with fail
          refine (LG'.out _).mono ?_
          rintro e w' ⟨rfl, rfl⟩
          cases l
          · go_wp2_with fail
            refine (P2.out _).mono ?_
            rintro e x2 ⟨n2, rfl, hR2, hb⟩
            have R2 := Lib.hid hR2
            have HB2 := Lib.hid (below_tr HB1.out hb)
            have HG2 := Lib.hid (HG1.out.below hb)
            clear hR2 hb
            by_cases hn2 : n2 = 0
            · subst hn2
              go_wp2
              go_ret
              exact ⟨rfl, HB2.out⟩
            · have e2 : (n2 == 0) = false := beq_eq_false_iff_ne.2 hn2
              have OK2 := Lib.hid (prefR_ok R2.out hn2)
              clear hn2
              go_wp2_with fail
              refine (IP.out _).mono ?_
              rintro e x3 ⟨⟨n3, rfl⟩, hb⟩
              have HB3 := Lib.hid (below_tr HB2.out hb)
              have HG3 := Lib.hid (HG2.out.below hb)
              clear hb
              rcases bool_or (n3 != 1) with e3 | e3
              · go_wp2
                go_ret
                exact ⟨rfl, HB3.out⟩
              · go_wp2_with fail
                refine (M1.out _ HG3.out).mono ?_
                rintro e x4 ⟨b, rfl, hR, hb⟩
                have RB := Lib.hid hR
                have HB4 := Lib.hid (below_tr HB3.out hb)
                have HG4 := Lib.hid (HG3.out.below hb)
                clear hR hb
                go_wp2_with fail
                refine (P1.out _).mono ?_
                rintro e x5 ⟨n5, rfl, hR, hb⟩
                have T := Lib.hid (fnGlobs.told_of RB.out hR)
                have HB5 := Lib.hid (below_tr HB4.out hb)
                have HG5 := Lib.hid (HG4.out.below hb)
                clear hR hb
                go_wp2_with fail
                refine (fnGlobs.told_any b n5 _ T.out).mono ?_
                rintro e w' ⟨rfl, rfl⟩
                cases b
                · go_wp2
                  go_ret
                  exact ⟨rfl, HB5.out⟩
                · have ANY : Hid (AnyG g.data.toList t.data.toList) := Lib.hid ((RB.out OK1.out.1).1 rfl)
                  have hg60 : g.size ≤ 60 := by rw [← size_len]; exact OK1.out.2.1
                  have ht60 : t.size ≤ 60 := by rw [← size_len]; exact OK1.out.2.2.1
                  have hm60 : m.size ≤ 60 := by rw [← size_len]; exact OK2.out.2.1
                  have s2 : (t ++ ⟨#[47, 100, 101, 101, 112, 101, 114]⟩).size ≤ 4294967296 := by rw [ByteArray.size_append]; show t.size + 7 ≤ 4294967296; omega
                  have s3 : (g ++ ⟨#[44]⟩ ++ m).size ≤ 4294967296 := by rw [ByteArray.size_append, ByteArray.size_append]; show g.size + 1 + m.size ≤ 4294967296; omega
                  have s4 : (m ++ ⟨#[44, 44]⟩ ++ g).size ≤ 4294967296 := by rw [ByteArray.size_append, ByteArray.size_append]; show m.size + 2 + g.size ≤ 4294967296; omega
                  have s5 : (g ++ ⟨#[47]⟩).size ≤ 2147483647 := by rw [ByteArray.size_append]; show g.size + 1 ≤ 2147483647; omega
                  have hg4 : g.size ≤ 4294967296 := by omega
                  have ht4 : t.size ≤ 4294967296 := by omega
                  have d2 : (t ++ (⟨#[47, 100, 101, 101, 112, 101, 114]⟩ : ByteArray)).data.toList = t.data.toList ++ 47 :: deepL := by simp [ByteArray.data_append, deepL]
                  have d3 : (g ++ (⟨#[44]⟩ : ByteArray) ++ m).data.toList = g.data.toList ++ 44 :: m.data.toList := by simp [ByteArray.data_append]
                  have d4 : (m ++ (⟨#[44, 44]⟩ : ByteArray) ++ g).data.toList = m.data.toList ++ 44 :: 44 :: g.data.toList := by simp [ByteArray.data_append]
                  have d5 : (g ++ (⟨#[47]⟩ : ByteArray)).data.toList = g.data.toList ++ [47] := by simp [ByteArray.data_append]
                  have M2 := Lib.hid (fun wx (h : Glo wx) => implmpp_any g (t ++ ⟨#[47, 100, 101, 101, 112, 101, 114]⟩) wx h hg4 s2)
                  have M3 := Lib.hid (fun wx (h : Glo wx) => implmpp_any (g ++ ⟨#[44]⟩ ++ m) t wx h s3 ht4)
                  have M4 := Lib.hid (fun wx (h : Glo wx) => implmpp_any (m ++ ⟨#[44, 44]⟩ ++ g) t wx h s4 ht4)
                  have M5 := Lib.hid (fun wx (h : Glo wx) => implmpp_any (g ++ ⟨#[47]⟩) t wx h (by omega) ht4)
                  have P5 := Lib.hid (fun wx => prefix_any (g ++ ⟨#[47]⟩) t wx s5 h1)
                  have D2 := Lib.hid d2
                  have D3 := Lib.hid d3
                  have D4 := Lib.hid d4
                  have D5 := Lib.hid d5
                  clear d2 d3 d4 d5 s2 s3 s4 s5
                  go_wp2_with fail
                  refine (M2.out _ HG5.out).mono ?_
                  rintro e x6 ⟨b2, rfl, hR, hb⟩
                  rw [D2.out] at hR
                  obtain rfl := yes2 (m := []) OK1.out ANY.out hR
                  have HB6 := Lib.hid (below_tr HB5.out hb)
                  have HG6 := Lib.hid (HG5.out.below hb)
                  clear hR hb
                  go_wp2_with fail
                  refine (M3.out _ HG6.out).mono ?_
                  rintro e x7 ⟨b3, rfl, hR, hb⟩
                  rw [D3.out] at hR
                  obtain rfl := yes3 OK1.out OK2.out ANY.out hR
                  have HB7 := Lib.hid (below_tr HB6.out hb)
                  have HG7 := Lib.hid (HG6.out.below hb)
                  clear hR hb
                  go_wp2_with fail
                  refine (M4.out _ HG7.out).mono ?_
                  rintro e x8 ⟨b4, rfl, hR, hb⟩
                  rw [D4.out] at hR
                  obtain rfl := yes4 OK1.out OK2.out ANY.out hR
                  have HB8 := Lib.hid (below_tr HB7.out hb)
                  have HG8 := Lib.hid (HG7.out.below hb)
                  clear hR hb
                  go_wp2_with fail
                  refine (P5.out _).mono ?_
                  rintro e x9 ⟨n9, rfl, hR9, hb⟩
                  rw [D5.out] at hR9
                  have R9 := Lib.hid hR9
                  have HB9 := Lib.hid (below_tr HB8.out hb)
                  have HG9 := Lib.hid (HG8.out.below hb)
                  clear hR9 hb
                  by_cases hn9 : n9 = 0
                  · subst hn9
                    go_wp2
                    go_ret
                    exact ⟨rfl, HB9.out⟩
                  · have e9 : (n9 == 0) = false := beq_eq_false_iff_ne.2 hn9
                    have HN9 := Lib.hid hn9
                    clear hn9
                    go_wp2_with fail
                    refine (M5.out _ HG9.out).mono ?_
                    rintro e x10 ⟨b6, rfl, hR, hb⟩
                    rw [D5.out] at hR
                    obtain rfl := yes5 OK1.out ANY.out R9.out HN9.out hR
                    have HB10 := Lib.hid (below_tr HB9.out hb)
                    clear hR hb
                    go_wp2
                    go_ret
                    exact ⟨rfl, HB10.out⟩
          · go_wp2
            go_ret
            exact ⟨rfl, HB1.out⟩
      · clear LG
        go_enter Tryd.func4, Tryd.ntmps4
        go_wp2
        go_ret
        exact ⟨rfl, hb0.out⟩
    · clear LG
      go_enter Tryd.func4, Tryd.ntmps4
      go_wp2
      go_ret
      exact ⟨rfl, hb0.out⟩
  · clear LG
    go_enter Tryd.func4, Tryd.ntmps4
    go_wp2
    go_ret
    exact ⟨rfl, hb0.out⟩

set_option maxRecDepth 1000000 in
theorem lifted (os : Os) (started : os.Started) (H : Type) (enc : TypeId × Value → H) (F : Stop.Interp) :
    ReturnsInHanded {} Tryd.checked os 4 .any ((OpenSpec.ofChange Rows.fnGlobsDeeperSpec).preRow enc Tryd.prog Tryd.f4 Rows.fnGlobsDeeperRow.domain false Rows.fnGlobsDeeperRow.laid) (((OpenSpec.ofChange Rows.fnGlobsDeeperSpec).at F).post enc Tryd.prog Tryd.f4 false true false false) := by
  have hw : (DataW.whole enc Tryd.prog ((laidWorld os).forCall (fun _ _ => 0) ⟨#[], #[Value.string ByteArray.empty, Value.string ByteArray.empty, Value.string ByteArray.empty], []⟩).memory Tryd.f4.params.toList Rows.fnGlobsDeeperSpec.vars false #[Value.string ByteArray.empty, Value.string ByteArray.empty, Value.string ByteArray.empty].toList 8).map (fun x => (x.1, x.2.1)) =
      some ([.lit (.string []), .lit (.string []), .lit (.string [])], []) := by kernel_rfl
  obtain ⟨⟨x1, x2, x3⟩, hx, hx1⟩ := Option.map_eq_some_iff.1 hw
  simp only [Prod.mk.injEq] at hx1
  obtain ⟨rfl, rfl⟩ := hx1
  refine returnsInHanded_of_row (C := Tryd.checked) (s := OpenSpec.ofChange Rows.fnGlobsDeeperSpec) own started (by kernel_rfl) Tryd.func4
    (witness_row_atRef (enc := enc) (C := Tryd.checked) false (laidWorld os) #[Value.string ByteArray.empty, Value.string ByteArray.empty, Value.string ByteArray.empty] rfl (by kernel_rfl) (by kernel_rfl) (by kernel_rfl)
      (OpenSpec.preRow_of_cond 8 hx (by kernel_rfl) (fun k hk => by cases hk) (by kernel_rfl) (laid_met os _))) ?_
  intro W base args ds gs before hval0 hW _ _ _ hL _ _
  have hval : ∀ (j : Nat) t v, Tryd.f4.params[j]? = some t → args[j]? = some v → Value.okWide Tryd.prog W .any base t v := hval0
  have hG : Glo W := glo_of hL
  have hW' := hW
  obtain ⟨p, q, hA0, hV, rfl, hfz, hnd⟩ := hW
  have hA : DataW.TrodAll enc Tryd.prog W 0 (fun _ => true) true Tryd.f4.params.toList args.toList ds p := hA0
  rw [Tryd.params4] at hA hval
  obtain ⟨v0, vs0, d0, ds0, p0, q0, hargs, rfl, rfl, h0, r0⟩ := trodAll_cons hA
  obtain ⟨v1, vs1, d1, ds1, p1, q1, rfl, rfl, rfl, h1, r1⟩ := trodAll_cons r0
  obtain ⟨v2, vs2, d2, ds2, p2, q2, rfl, rfl, rfl, h2, r2⟩ := trodAll_cons r1
  obtain ⟨rfl, rfl, rfl⟩ := trodAll_nil r2
  obtain rfl : args = #[v0, v1, v2] := by cases args; simp_all
  obtain ⟨rfl, rfl⟩ := trodVars_none hV
  obtain ⟨a0, rfl, rfl, rfl, w0⟩ := open_string Tryd.underlying9 (hval 0 9 v0 rfl rfl) h0
  obtain ⟨a1, rfl, rfl, rfl, w1⟩ := open_string Tryd.underlying9 (hval 1 9 v1 rfl rfl) h1
  obtain ⟨a2, rfl, rfl, rfl, w2⟩ := open_string Tryd.underlying9 (hval 2 9 v2 rfl rfl) h2
  clear hA0 hval0
  simp only [List.append_nil] at hW'
  refine (walk a0 a1 a2 w0 w1 w2 W hG).mono fun e W' ⟨he, hb⟩ => ?_
  subst he
  exact ⟨_, rfl, law_post (pa := []) (pv := []) hW' (trodAll_cons_mk (shut_bool Tryd.underlying4 _) trodAll_mk0) (trodAll_cons_mk (shut_string Tryd.underlying9 w0) (trodAll_cons_mk (shut_string Tryd.underlying9 w1) (trodAll_cons_mk (shut_string Tryd.underlying9 w2) trodAll_mk0))) rfl hb⟩

theorem said : Rows.FnGlobsDeeperSaid :=
  OpenClaim.holds_of_cond 4 Tryd.f4 rfl rfl rfl rfl rfl rfl rfl ⟨rfl, rfl, rfl, rfl, rfl⟩ rfl rfl rfl rfl rfl (by kernel_rfl) Tryd.func4 (by kernel_rfl)
    (of_decide_eq_true (by kernel_rfl)) (by unfold Func.isWrapper; first | (rw [if_pos (by decide +kernel)]; kernel_rfl) | (rw [if_neg (by decide +kernel)]; exact ⟨rfl, rfl⟩))
    (fun os started H enc _ F => by rw [OpenClaim.pre_eq_preRow]; exact lifted os started H enc F)

theorem plain (f : FuncId) (fn : Func) (hf : Tryd.pinned.checked.prog.funcNamed Rows.fnGlobsDeeperRow.func = some f) (hfn : Tryd.pinned.checked.prog.funcs[f]? = some fn) :
    false = Tryd.pinned.checked.prog.looks [] ∧ ∀ (j : Nat) t, fn.params[j]? = some t → Tryd.pinned.checked.prog.wantsStandIn t = false := by
  obtain rfl : f = 4 := Option.some.inj ((show Tryd.prog.funcNamed Rows.fnGlobsDeeperRow.func = some 4 by kernel_rfl).symm.trans hf) |>.symm
  obtain rfl : fn = Tryd.f4 := (Option.some.inj (Tryd.func4.symm.trans hfn)).symm
  refine ⟨by kernel_rfl, fun j t ht => ?_⟩
  rw [Tryd.params4] at ht
  obtain rfl : t = 9 := by simpa using Array.mem_of_getElem? ht
  exact (show Tryd.prog.wantsStandIn 9 = false by kernel_rfl)

theorem proved : Rows.FnGlobsDeeperCardSaid :=
  Claim7.holds_tied_plain_at .later [] _ _ _ _ said (fun _ h => by cases h) (by kernel_rfl) (fun _ h => by cases h) fnGlobsDeeper_row_tie rfl ⟨rfl, rfl⟩ (by kernel_rfl) rfl plain (by kernel_rfl)
end Go.Proofs.YtdinaphcglmhoaaDoor.fnGlobsDeeper
