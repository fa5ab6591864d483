/-
  laws.FnSortTwice at the comparison of versions; at no element, nil too.
-/
import Derived.Test.YtdinaphcglmhoaaFsN
import Derived.Test.YtdinaphcglmhoaaFtW
namespace Go.Proofs.Ytdinaphcglmhoaa
open Go.RowKit
set_option linter.unusedVariables false

theorem sorted_one {l l1 l2 : List PV} (h : PartN verC l) (p1 : l.Perm l1) (p2 : l.Perm l2) (s1 : SortedP l1) (s2 : SortedP l2) : l1 = l2 := by
  have hP : Parted l := h.part
  refine List.Perm.eq_of_pairwise (le := fun a b => ¬ ordP b a < 0) ?_ ?_ ?_ (p1.symm.trans p2)
  · intro a b ha hb hab hba
    have ha := p1.mem_iff.2 ha
    have hb := p2.mem_iff.2 hb
    rw [ordP_eq hP hb ha] at hab
    rw [ordP_eq hP ha hb] at hba
    have f := cK_good.flip (keyP a) (keyP b)
    have e := cK_good.eq (keyP a) (keyP b) (by omega)
    by_cases hne : a = b
    · exact hne
    · exfalso
      have q1 : a.1.data.toList = b.1.data.toList := congrArg Prod.fst e
      have q2 : (readV (hdV a.2.data.toList)).map key = (readV (hdV b.2.data.toList)).map key := congrArg (fun z => z.2.1) e
      rw [hdV_no (h.1 a ha), hdV_no (h.1 b hb)] at q2
      refine h.2 a ha b hb hne q1 ?_
      unfold verC
      rw [q2]
      exact (optC_good (.inl rfl) keyC_good).self _
  · rw [List.pairwise_iff_getElem]
    exact fun i j hi hj hij => s1 i j hij hj
  · rw [List.pairwise_iff_getElem]
    exact fun i j hi hj hij => s2 i j hij hj

theorem sortT_ver : SortT verC := fun l hP hs hl => by
  refine ⟨SortedP, fun l1 l2 p1 p2 s1 s2 => sorted_one hP p1 p2 s1 s2, fun l2 hp b o cap w hin => ?_⟩
  have hP2 : Parted l2 := fun x hx y hy => hP.part x (hp.mem_iff.2 hx) y (hp.mem_iff.2 hy)
  have hlen := hp.length_eq
  have := sort_list l2 hP2 (fun x hx => hs x (hp.mem_iff.2 hx)) b o cap w hin (by omega)
  rw [← hlen] at this
  refine this.mono ?_
  rintro e w' ⟨l', g, cap', he, hq, hsrt, hr, hb, hg⟩
  exact ⟨l', g, cap', by rw [he, hlen], Lib.hid (hp.trans hq), Lib.hid hsrt, hr, hb, Lib.hid hg⟩

theorem fnTwice_some (l : List PV) (b o cap : Nat) (t : Int) (w : World) (hin : PvAt w b o l) (hl : l.length ≤ cap ∧ cap ≤ maxLen) (hs : ∀ x ∈ l, x.1.size ≤ maxLen ∧ x.2.size ≤ maxLen) (hne : l ≠ []) (ht : 0 ≤ t ∧ t ≤ 255) :
    Calls Try.prog 11 #[.slice (some ⟨b, o, none⟩) l.length cap, .int .u8 t] w fun e w' => e = .returned (.bool true) ∧ Below w.heap.size w w' :=
  fnTwice_any verC verC_good0 cmpK_ver sortT_ver l b o cap t w hin hl hs hne ht

set_option maxRecDepth 100000 in
theorem fnTwice_nil (a : Option Addr) (cap : Nat) (t : Int) (w : World) :
    Calls Try.prog 11 #[.slice a 0 cap, .int .u8 t] w fun e w' => e = .returned (.bool true) ∧ Below w.heap.size w w' := by
  have Z := Lib.hid (fun w => zzFits1_nil a cap w)
  go_enter Try.func11, Try.ntmps11
  go_wp2_with fail
  refine (Z.out _).mono ?_
  rintro e w1 ⟨rfl, hb1⟩
  go_wp2
  go_ret
  exact ⟨rfl, hb1.out⟩
theorem u8_of {t : Int} (h : (Lit.int .u8 t).wf = true) : 0 ≤ t ∧ t ≤ 255 := by
  simpa [Lit.wf, IntKind.min, IntKind.max, IntKind.signed, IntKind.bits] using h
end Go.Proofs.Ytdinaphcglmhoaa
