/-
  The walks of module.Sort and of impl.Sort: whatever the list and the order that the closure tells.
-/
import Derived.Test.YtdinaphcglmhoaaSlay
import Derived.Test.YtdinaphcglmhoaaSortC
namespace Go.Proofs.Ytdinaphcglmhoaa
open Go.RowKit Go.Sort
set_option linter.unusedVariables false
section
variable {α : Type} [Inhabited α]

/-- the closure, called with two of the elements, tells cf -/
def ClosTells (pv : α → PV) (cf : α → α → Int) : Prop := ∀ (x y : α) (W : World),
  Calls Try.prog 52 #[.agg #[.string (pv x).1, .string (pv x).2], .agg #[.string (pv y).1, .string (pv y).2]] W fun e w' => e = .returned (.int .i64 (cf x y)) ∧ ∃ q os', w' = grow (W.drewN q) os'

theorem modSort (pv : α → PV) (cf : α → α → Int) (hO : SWO (ltOf cf)) (hcl : ClosTells pv cf) (g cap : Nat) (d : Array α) (w : World) (hH : HoldsK (fun x => enc2 (pv x)) 2 w g 0 d) (hg : g < w.heap.size) (hsz : d.size < 4611686018427387904) :
    Calls Try.prog 38 #[.slice (some ⟨g, 0, none⟩) d.size cap] w fun e w' => e = .returned (.tuple #[]) ∧ ∃ d' n os, PermIn 0 d.size d d' ∧ SortedIn (ltOf cf) 0 d.size d' ∧ w' = sortWorldK (fun x => enc2 (pv x)) 2 w g 0 n d' os := by
  have eg : ∀ args w, (callFunc 52 args).run Try.prog w = .ok (.enter 52 args) w := enters_of Try.func52 (by kernel_rfl) rfl
  have hcon := AnyQ.slices_SortFunc Try.sortV 2 Try.isAgg54 Try.sizeOf54 (fun x => enc2 (pv x)) (fun _ => rfl) (fun x v hv => by simp [enc2] at hv; rcases hv with rfl | rfl <;> rfl) cf hO 52 #[] g 0 cap d w eg (fun _ _ _ _ x y => hcl x y _) hH hg hsz
  change Calls Try.prog 51 _ _ _ at hcon
  clear hH hcl
  go_enter Try.func38, Try.ntmps38
  go_wp2_with (go_at_call 51; refine hcon.mono ?_; rintro e w' ⟨rfl, d', n, os, hp, hs, rfl⟩)
  go_end0
  exact ⟨rfl, d', n, os, hp, hs, rfl⟩
end

theorem infoPv : (Try.prog.info? 54).map (fun i => (i.zero, i.size, i.bytes)) = some (some (.agg #[.string ⟨#[]⟩, .string ⟨#[]⟩]), 2, 32) := by kernel_rfl
theorem infoIv : (Try.prog.info? 24).map (fun i => (i.zero, i.size, i.bytes)) = some (some (.agg #[.string ⟨#[]⟩, .string ⟨#[]⟩]), 2, 32) := by kernel_rfl

theorem cells_new2 (W : World) (e : TypeId) (x0 x1 : Value) (n : Nat) (hn : n = W.heap.size) : ∀ (j : Nat) (u : Value), [x0, x1][j]? = some u → (W.alloc (.cells #[x0, x1] e)).cell? ((⟨n, 0, none⟩ : Addr).add j) = some u := by
  subst hn
  intro j u hu
  have hadd : (⟨W.heap.size, 0, none⟩ : Addr).add j = ⟨W.heap.size, j, none⟩ := by unfold Addr.add; split <;> simp_all
  rw [hadd, cell_of_row _ _ j #[x0, x1] e (0, 0) (heap_alloc_new W _)]
  simpa using hu

set_option maxRecDepth 8000 in
set_option maxHeartbeats 2000000 in
/-- the first loop and the call; the second loop -/
theorem implSort {α : Type} [Inhabited α] (pv : α → PV) (cf : α → α → Int) (hO : SWO (ltOf cf)) (hcl : ClosTells pv cf) (l : List α) (b o cap : Nat) (w : World) (hin : PvAt w b o (l.map pv)) (hl : l.length ≤ 1073741824) :
    Calls Try.prog 24 #[.slice (some ⟨b, o, none⟩) l.length cap] w fun e w' => ∃ (l' : List α) (g cap' : Nat), e = .returned (.slice (some ⟨g, 0, none⟩) l.length cap') ∧ l.Perm l' ∧ SortedIn (ltOf cf) 0 l.length l'.toArray ∧ PvAt w' g 0 (l'.map pv) ∧ Below w.heap.size w w' ∧ w.heap.size ≤ g := by
  obtain ⟨i0, hi, hz0, hz1, hz2⟩ := info_parts infoPv
  obtain ⟨j0, hj, hy0, hy1, hy2⟩ := info_parts infoIv
  have M := Lib.hid (fun g cap d w => modSort pv cf hO hcl g cap d w)
  have HIN := Lib.hid hin.2
  have hbw := hin.1
  clear hO hcl hin
  go_enter Try.func24, Try.ntmps24
  go_wp2
  go_loopw [3, 12] (fun v i wr => ∃ (k : Nat), k ≤ l.length ∧ i = .int .i64 k ∧ Hid (wr.ownsRow w.heap.size 54 2 v k (flat2 ((l.map pv).take k)) ∧ v ≠ .slice none 0 0) ∧ Below w.heap.size w wr) (fun _ i _ => l.length - (intOf i).toNat)
  case atStart =>
    refine ⟨0, Nat.zero_le _, rfl, Lib.hid ⟨?_, by simp⟩, below_al (Below.refl _ _) _⟩
    exact World.ownsRow_lit w #[] 0 (Nat.le_refl _) (Nat.zero_le _) rfl
  case round =>
    obtain ⟨k, hk, rfl, hown, hb⟩ := hrel
    by_cases hlt : k < l.length
    · have hc := HIN.out k (by simpa using hlt)
      obtain ⟨x0, x1, c0, c1, e1⟩ : ∃ x0 x1, wr.cell? ⟨b, o + k * 2, none⟩ = some (.string x0) ∧ wr.cell? ⟨b, o + k * 2 + 1, none⟩ = some (.string x1) ∧ Hid (flat2 ((l.map pv).take (k + 1)) = flat2 ((l.map pv).take k) ++ [.string x0, .string x1]) :=
        ⟨(pv l[k]).1, (pv l[k]).2, (hb.cell (p := ⟨b, o + k * 2, none⟩) hbw).trans (by simpa using hc.1), (hb.cell (p := ⟨b, o + k * 2 + 1, none⟩) hbw).trans (by simpa using hc.2), Lib.hid (by
          rw [List.take_succ_eq_append_getElem (by simpa using hlt), flat2_snoc, List.getElem_map]; rfl)⟩
      clear hc
      go_wp2_with (at_builtin; refine wpList_append_own _ rfl _ _ 61 rfl w.heap.size 54 i0 (.agg #[.string ⟨#[]⟩, .string ⟨#[]⟩]) 2 32 Try.underlying61 hi hz0 hz1 hz2 rfl (by decide) _ _ _ rfl ((hown.out.1.alloc _).alloc _) ⟨wr.heap.size + 1, 0, none⟩ 1 1 [.string x0, .string x1] rfl rfl ?c1 ?c2 ?c3 ?c4 ?c5 ?_)
      case c1 => exact cells_new2 _ _ _ _ _ (by simp)
      case c2 => intro u hu; simp at hu; rcases hu with rfl | rfl <;> rfl
      case c3 => unfold maxLen; omega
      case c4 => omega
      case c5 => have := hb.size; simp; omega
      intro v' w1 hown1 hg1 hnil
      have hb1 : Below w.heap.size w w1 := (below_al (below_al hb _) _).grown hg1 (by have := hb.size; simp; omega) (fun j hj => (hown.out.1.lt j hj).1)
      rw [← e1.out] at hown1
      have F : Hid (w1.ownsRow w.heap.size 54 2 v' (k + 1) (flat2 ((l.map pv).take (k + 1))) ∧ v' ≠ .slice none 0 0) := Lib.hid ⟨hown1, hnil⟩
      clear hown hown1 hnil hg1 hb e1 c0 c1
      go_wp2
      go_roundw
      case rel => exact ⟨k + 1, by omega, by go_num, F, hb1⟩
      case measure => simp [intOf]; omega
    · obtain rfl : k = l.length := by omega
      obtain ⟨hown, hv⟩ := hown.out
      rw [List.take_of_length_le (by simp)] at hown
      rcases hown.2 with ⟨e0, _⟩ | ⟨g, cp, cur, rfl, hb2, hb3, hb4, hb5, hb6, hb7⟩
      · exact absurd e0 hv
      · obtain ⟨hH, hg, hwg, -⟩ := holdsK_of_owns pv l hown
        have S : Hid (Calls Try.prog 38 #[.slice (some ⟨g, 0, none⟩) l.length cp] wr fun e w' => e = .returned (.tuple #[]) ∧ ∃ l' : List α, l'.length = l.length ∧ Hid (l.Perm l' ∧ SortedIn (ltOf cf) 0 l.length l'.toArray) ∧ Hid (PvAt w' g 0 (l'.map pv)) ∧ Below w.heap.size w w') := Lib.hid (by
          refine (M.out g cp l.toArray wr hH hg (by simp; omega)).mono ?_
          rintro e w' ⟨he, d', n, os, hp, hs, rfl⟩
          have hz : d'.size = l.length := by simpa using hp.1
          refine ⟨he, d'.toList, by simpa using hz, Lib.hid ⟨?_, ?_⟩, Lib.hid ?_, ?_⟩
          · have := hp.2.2
            simp only [List.size_toArray] at this
            rw [show d'.extract 0 l.length = d' from by rw [← hz]; simp, show l.toArray.extract 0 l.length = l.toArray from by simp] at this
            exact this.symm
          · simpa using hs
          · exact pvAt_of_holdsK pv d' (by have := (grown_sort (fun x => enc2 (pv x)) wr g n d' os).size; omega) (holds_sort _ wr g n l.toArray d' os hg hH (by simpa using hz))
          · exact hb.grown (grown_sort _ wr g n d' os) (by have := hb.size; omega) (fun j hj => by injection hj with hj; omega))
        clear hown hb3 hb4 hb5 hb6 hb7 hH M HIN hb
        go_wp2_with (fail)
        refine S.out.mono ?_
        rintro e w2 ⟨rfl, l', hl', hps, hpv, hb⟩
        clear S
        go_wp2
        go_loopw [6, 30] (fun v i wr => ∃ (k : Nat), k ≤ l.length ∧ i = .int .i64 k ∧ Hid (wr.ownsRow w2.heap.size 24 2 v k (flat2 ((l'.map pv).take k)) ∧ v ≠ .slice none 0 0) ∧ Below w2.heap.size w2 wr) (fun _ i _ => l.length - (intOf i).toNat)
        case atStart =>
          refine ⟨0, Nat.zero_le _, rfl, Lib.hid ⟨?_, by simp⟩, below_al (Below.refl _ _) _⟩
          exact World.ownsRow_lit w2 #[] 0 (Nat.le_refl _) (Nat.zero_le _) rfl
        case round =>
          obtain ⟨k, hk, rfl, hown, hb'⟩ := hrel
          have hg2 := hpv.out.1
          by_cases hlt : k < l.length
          · have hkm : k < (l'.map pv).length := by simp; omega
            have hc := hpv.out.2 k hkm
            rw [Nat.zero_add] at hc
            obtain ⟨x0, x1, c0, c1, e1⟩ : ∃ x0 x1, wr.cell? ⟨g, k * 2, none⟩ = some (.string x0) ∧ wr.cell? ⟨g, k * 2 + 1, none⟩ = some (.string x1) ∧ Hid (flat2 ((l'.map pv).take (k + 1)) = flat2 ((l'.map pv).take k) ++ [.string x0, .string x1]) :=
              ⟨(l'.map pv)[k].1, (l'.map pv)[k].2, (hb'.cell (p := ⟨g, k * 2, none⟩) hg2).trans hc.1, (hb'.cell (p := ⟨g, k * 2 + 1, none⟩) hg2).trans hc.2, Lib.hid (by
                rw [List.take_succ_eq_append_getElem (by simp; omega), flat2_snoc]; rfl)⟩
            clear hc
            go_wp2_with (at_builtin; refine wpList_append_own _ rfl _ _ 38 rfl w2.heap.size 24 j0 (.agg #[.string ⟨#[]⟩, .string ⟨#[]⟩]) 2 32 Try.underlying38 hj hy0 hy1 hy2 rfl (by decide) _ _ _ rfl ((hown.out.1.alloc _).alloc _) ⟨wr.heap.size + 1, 0, none⟩ 1 1 [.string x0, .string x1] rfl rfl ?c1 ?c2 ?c3 ?c4 ?c5 ?_)
            case c1 => exact cells_new2 _ _ _ _ _ (by simp)
            case c2 => intro u hu; simp at hu; rcases hu with rfl | rfl <;> rfl
            case c3 => unfold maxLen; omega
            case c4 => omega
            case c5 => have := hb'.size; simp; omega
            intro v' w1 hown1 hg1 hnil
            have hb1 : Below w2.heap.size w2 w1 := (below_al (below_al hb' _) _).grown hg1 (by have := hb'.size; simp; omega) (fun j hj => (hown.out.1.lt j hj).1)
            rw [← e1.out] at hown1
            have F : Hid (w1.ownsRow w2.heap.size 24 2 v' (k + 1) (flat2 ((l'.map pv).take (k + 1))) ∧ v' ≠ .slice none 0 0) := Lib.hid ⟨hown1, hnil⟩
            clear hown hown1 hnil hg1 hb' e1 c0 c1
            go_wp2
            go_roundw
            case rel => exact ⟨k + 1, by omega, by go_num, F, hb1⟩
            case measure => simp [intOf]; omega
          · obtain rfl : k = l.length := by omega
            obtain ⟨hown, hv⟩ := hown.out
            rw [List.take_of_length_le (by simp; omega)] at hown
            rcases hown.2 with ⟨e0, _⟩ | ⟨g', cp', cur', rfl, hb2, hb3, hb4, hb5, hb6, hb7⟩
            · exact absurd e0 hv
            · have P := Lib.hid (pvAt_of_owns hown)
              clear hown hb3 hb4 hb5 hb6 hb7
              go_wp2
              go_ret
              exact ⟨l', g', cp', rfl, hps.out.1, hps.out.2, P.out.1, hb.trans (hb'.mono hb.size), by have := hb.size; omega⟩
end Go.Proofs.Ytdinaphcglmhoaa
