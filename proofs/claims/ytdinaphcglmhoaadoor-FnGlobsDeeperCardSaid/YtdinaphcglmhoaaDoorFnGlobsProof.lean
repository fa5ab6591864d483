/-
  PROVED: laws.FnGlobs returns true for all patterns and targets, as the card states it (the listed variables as the program's text lays them): what MatchPrefixPatterns says is what the reference says where it says something. No condition.
  The card speaks of a pruned copy of the project.
-/
import Derived.Test.YtdinaphcglmhoaaDoorLaid
import Derived.Test.YtdinaphcglmhoaaDoorMpp
import Derived.Test.YtdinaphcglmhoaaDoorPrefix
namespace Go.Proofs.YtdinaphcglmhoaaDoor.fnGlobs
open Go.ChangeShapes Go.WideShapes Go.ChangeAt Go.RowKit
open Go.ChangeMaps (open_string shut_string)
set_option linter.unusedVariables false

theorem told_any (b : Bool) (n : Int) (w : World) (h : n = 0 ∨ b = decide (n = 1)) :
    Calls Tryd.prog 5 #[.bool b, .int .i64 n] w fun e w' => e = .returned (.bool true) ∧ w = w' := by
  by_cases h0 : n = 0
  · subst h0
    clear h
    go_enter Tryd.func5, Tryd.ntmps5
    go_wp2
    go_ret
    exact ⟨rfl, rfl⟩
  · have e0 : (n == 0) = false := by simpa using h0
    by_cases h1 : n = 1
    · have hb : b = true := by rcases h with h | h; exact absurd h h0; rw [h, decide_eq_true h1]
      subst hb; subst h1
      clear h h0
      go_enter Tryd.func5, Tryd.ntmps5
      go_wp2
      go_ret
      exact ⟨rfl, rfl⟩
    · have hb : b = false := by rcases h with h | h; exact absurd h h0; rw [h, decide_eq_false h1]
      have e1 : (n == 1) = false := by simpa using h1
      subst hb
      clear h h0 h1
      go_enter Tryd.func5, Tryd.ntmps5
      go_wp2
      go_ret
      exact ⟨rfl, rfl⟩
theorem told_of {g t : Bs} {b : Bool} {n : Int} (h1 : MpR g t b) (h2 : PrefR g t n) : n = 0 ∨ b = decide (n = 1) := by
  rcases h2 with h | ⟨hp, ⟨rfl, h⟩ | ⟨rfl, h⟩⟩
  · exact .inl h
  · right
    rw [(h1 hp.1).2 h]; rfl
  · right
    cases b
    · rfl
    · exact absurd ((h1 hp.1).1 rfl) h

set_option maxHeartbeats 2000000 in
theorem walk (g t : ByteArray) (w0 : g.size ≤ maxLen) (w1 : t.size ≤ maxLen) (w : World) (hG : Glo w) :
    Calls Tryd.prog 3 #[.string g, .string t] w fun e w' => e = .returned (.bool true) ∧ Below w.heap.size w w' := by
  have hb0 := Lib.hid (Below.refl w.heap.size w)
  have HG := Lib.hid hG
  clear hG
  unfold maxLen at w0 w1
  by_cases h0 : g.size ≤ 2147483647
  · by_cases h1 : t.size ≤ 2147483647
    · have M := Lib.hid (implmpp_any g t w HG.out (by omega) (by omega))
      have P := Lib.hid (fun wx => prefix_any g t wx h0 h1)
      go_enter Tryd.func3, Tryd.ntmps3
      go_wp2_with fail
      refine M.out.mono ?_
      rintro e x1 ⟨b, rfl, hR, hb⟩
      have R := Lib.hid hR
      have HB1 := Lib.hid hb
      clear hR hb
      go_wp2_with fail
      refine (P.out _).mono ?_
      rintro e x2 ⟨n, rfl, hR, hb⟩
      have T := Lib.hid (told_of R.out hR)
      have HB2 := Lib.hid (below_tr HB1.out hb)
      clear hR hb
      go_wp2_with fail
      refine (told_any b n _ T.out).mono ?_
      rintro e x3 ⟨rfl, rfl⟩
      go_wp2
      go_ret
      exact ⟨rfl, HB2.out⟩
    · go_enter Tryd.func3, Tryd.ntmps3
      go_wp2
      go_ret
      exact ⟨rfl, hb0.out⟩
  · go_enter Tryd.func3, Tryd.ntmps3
    go_wp2
    go_ret
    exact ⟨rfl, hb0.out⟩

set_option maxRecDepth 1000000 in
theorem lifted (os : Os) (started : os.Started) (H : Type) (enc : TypeId × Value → H) (F : Stop.Interp) :
    ReturnsInHanded {} Tryd.checked os 3 .any ((OpenSpec.ofChange Rows.fnGlobsSpec).preRow enc Tryd.prog Tryd.f3 Rows.fnGlobsRow.domain false Rows.fnGlobsRow.laid) (((OpenSpec.ofChange Rows.fnGlobsSpec).at F).post enc Tryd.prog Tryd.f3 false true false false) := by
  have hw : (DataW.whole enc Tryd.prog ((laidWorld os).forCall (fun _ _ => 0) ⟨#[], #[Value.string ByteArray.empty, Value.string ByteArray.empty], []⟩).memory Tryd.f3.params.toList Rows.fnGlobsSpec.vars false #[Value.string ByteArray.empty, Value.string ByteArray.empty].toList 8).map (fun x => (x.1, x.2.1)) =
      some ([.lit (.string []), .lit (.string [])], []) := by kernel_rfl
  obtain ⟨⟨x1, x2, x3⟩, hx, hx1⟩ := Option.map_eq_some_iff.1 hw
  simp only [Prod.mk.injEq] at hx1
  obtain ⟨rfl, rfl⟩ := hx1
  refine returnsInHanded_of_row (C := Tryd.checked) (s := OpenSpec.ofChange Rows.fnGlobsSpec) own started (by kernel_rfl) Tryd.func3
    (witness_row_atRef (enc := enc) (C := Tryd.checked) false (laidWorld os) #[Value.string ByteArray.empty, Value.string ByteArray.empty] rfl (by kernel_rfl) (by kernel_rfl) (by kernel_rfl)
      (OpenSpec.preRow_of_cond 8 hx (by kernel_rfl) (fun k hk => by cases hk) (by kernel_rfl) (laid_met os _))) ?_
  intro W base args ds gs before hval0 hW _ _ _ hL _ _
  have hval : ∀ (j : Nat) t v, Tryd.f3.params[j]? = some t → args[j]? = some v → Value.okWide Tryd.prog W .any base t v := hval0
  have hG : Glo W := glo_of hL
  have hW' := hW
  obtain ⟨p, q, hA0, hV, rfl, hfz, hnd⟩ := hW
  have hA : DataW.TrodAll enc Tryd.prog W 0 (fun _ => true) true Tryd.f3.params.toList args.toList ds p := hA0
  rw [Tryd.params3] at hA hval
  obtain ⟨v0, vs0, d0, ds0, p0, q0, hargs, rfl, rfl, h0, r0⟩ := trodAll_cons hA
  obtain ⟨v1, vs1, d1, ds1, p1, q1, rfl, rfl, rfl, h1, r1⟩ := trodAll_cons r0
  obtain ⟨rfl, rfl, rfl⟩ := trodAll_nil r1
  obtain rfl : args = #[v0, v1] := by cases args; simp_all
  obtain ⟨rfl, rfl⟩ := trodVars_none hV
  obtain ⟨a0, rfl, rfl, rfl, w0⟩ := open_string Tryd.underlying9 (hval 0 9 v0 rfl rfl) h0
  obtain ⟨a1, rfl, rfl, rfl, w1⟩ := open_string Tryd.underlying9 (hval 1 9 v1 rfl rfl) h1
  clear hA0 hval0
  simp only [List.append_nil] at hW'
  refine (walk a0 a1 w0 w1 W hG).mono fun e W' ⟨he, hb⟩ => ?_
  subst he
  exact ⟨_, rfl, law_post (pa := []) (pv := []) hW' (trodAll_cons_mk (shut_bool Tryd.underlying4 _) trodAll_mk0) (trodAll_cons_mk (shut_string Tryd.underlying9 w0) (trodAll_cons_mk (shut_string Tryd.underlying9 w1) trodAll_mk0)) rfl hb⟩

theorem said : Rows.FnGlobsSaid :=
  OpenClaim.holds_of_cond 3 Tryd.f3 rfl rfl rfl rfl rfl rfl rfl ⟨rfl, rfl, rfl, rfl, rfl⟩ rfl rfl rfl rfl rfl (by kernel_rfl) Tryd.func3 (by kernel_rfl)
    (of_decide_eq_true (by kernel_rfl)) (by unfold Func.isWrapper; first | (rw [if_pos (by decide +kernel)]; kernel_rfl) | (rw [if_neg (by decide +kernel)]; exact ⟨rfl, rfl⟩))
    (fun os started H enc _ F => by rw [OpenClaim.pre_eq_preRow]; exact lifted os started H enc F)

theorem plain (f : FuncId) (fn : Func) (hf : Tryd.pinned.checked.prog.funcNamed Rows.fnGlobsRow.func = some f) (hfn : Tryd.pinned.checked.prog.funcs[f]? = some fn) :
    false = Tryd.pinned.checked.prog.looks [] ∧ ∀ (j : Nat) t, fn.params[j]? = some t → Tryd.pinned.checked.prog.wantsStandIn t = false := by
  obtain rfl : f = 3 := Option.some.inj ((show Tryd.prog.funcNamed Rows.fnGlobsRow.func = some 3 by kernel_rfl).symm.trans hf) |>.symm
  obtain rfl : fn = Tryd.f3 := (Option.some.inj (Tryd.func3.symm.trans hfn)).symm
  refine ⟨by kernel_rfl, fun j t ht => ?_⟩
  rw [Tryd.params3] at ht
  obtain rfl : t = 9 := by simpa using Array.mem_of_getElem? ht
  exact (show Tryd.prog.wantsStandIn 9 = false by kernel_rfl)

theorem proved : Rows.FnGlobsCardSaid :=
  Claim7.holds_tied_plain_at .later [] _ _ _ _ said (fun _ h => by cases h) (by kernel_rfl) (fun _ h => by cases h) fnGlobs_row_tie rfl ⟨rfl, rfl⟩ (by kernel_rfl) rfl plain (by kernel_rfl)
end Go.Proofs.YtdinaphcglmhoaaDoor.fnGlobs
