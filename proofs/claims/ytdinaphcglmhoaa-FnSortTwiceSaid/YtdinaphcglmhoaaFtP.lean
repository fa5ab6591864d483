/-
  What the walk of FnSortTwice stands on: the plain part, the appends, the map of what was seen.
-/
import Derived.Test.YtdinaphcglmhoaaFsP
import Derived.Test.YtdinaphcglmhoaaSortP
import Derived.Maps.AppendAt
import Derived.Deep.AppendLies
import Derived.Deep.RegionHeld3
namespace Go.Proofs.Ytdinaphcglmhoaa
open Go.RowKit
set_option linter.unusedVariables false
set_option linter.unusedSimpArgs false

/-! ### the list: no stroke, no two alike -/
def OkQ (vC : Bs → Bs → Int) (x y : PV) : Prop := x.1.data.toList = y.1.data.toList → vC x.2.data.toList y.2.data.toList ≠ 0
def PartN (vC : Bs → Bs → Int) (l : List PV) : Prop := (∀ x ∈ l, (47 : UInt8) ∉ x.2.data.toList) ∧ ∀ x ∈ l, ∀ y ∈ l, x ≠ y → OkQ vC x y
def OkToQ (vC : Bs → Bs → Int) (l : List PV) (x : PV) (j : Nat) : Prop := ∀ y ∈ l.take j, OkQ vC x y
theorem OkToQ.zero {vC : Bs → Bs → Int} {l : List PV} {x : PV} : OkToQ vC l x 0 := fun y hy => by simp at hy
theorem OkToQ.step {vC : Bs → Bs → Int} {l : List PV} {x : PV} {j : Nat} (h : OkToQ vC l x j) (hj : j < l.length) (hk : OkQ vC x l[j]) : OkToQ vC l x (j + 1) := fun y hy => by
  rw [List.take_succ_eq_append_getElem hj, List.mem_append] at hy
  rcases hy with hy | hy
  · exact h y hy
  · simp at hy; subst hy; exact hk
theorem PartN.zero {vC : Bs → Bs → Int} {l : List PV} : PartN vC (l.take 0) := ⟨fun y hy => by simp at hy, fun y hy => by simp at hy⟩
theorem PartN.step {vC : Bs → Bs → Int} (hF : ∀ a b, vC a b = 0 → vC b a = 0) {l : List PV} {k : Nat} (h : PartN vC (l.take k)) (hk : k < l.length) (hn : (47 : UInt8) ∉ l[k].2.data.toList) (ho : OkToQ vC l l[k] k) : PartN vC (l.take (k + 1)) := by
  rw [List.take_succ_eq_append_getElem hk]
  refine ⟨fun x hx => ?_, fun x hx y hy hne => ?_⟩
  · rw [List.mem_append] at hx
    rcases hx with hx | hx
    · exact h.1 x hx
    · simp at hx; subst hx; exact hn
  · rw [List.mem_append] at hx hy
    rcases hx with hx | hx <;> rcases hy with hy | hy
    · exact h.2 x hx y hy hne
    · simp at hy; subst hy
      exact fun e z => ho x hx e.symm (hF _ _ z)
    · simp at hx; subst hx; exact ho y hy
    · simp at hx hy; subst hx; subst hy; exact absurd rfl hne
theorem no47_of {x : ByteArray} (h : inB x.data.toList 47 = false) : (47 : UInt8) ∉ x.data.toList := fun hm => by
  rw [inB_true hm] at h; cases h
theorem hdV_no {l : Bs} (h : (47 : UInt8) ∉ l) : hdV l = l := by
  unfold hdV
  induction l with
  | nil => rfl
  | cons c r ih =>
    simp only [List.mem_cons, not_or] at h
    have hn : nStr c = true := by unfold nStr; simpa using fun e => h.1 e.symm
    rw [List.takeWhile_cons, hn, if_pos rfl, ih h.2]
theorem PartN.part {vC : Bs → Bs → Int} {l : List PV} (h : PartN vC l) : PartG vC l := fun x hx y hy e hne => by
  rw [hdV_no (h.1 x hx), hdV_no (h.1 y hy)] at *
  exact h.2 x hx y hy (fun e' => hne (by rw [e'])) e

/-! ### the contract of the sort -/
def SrtT (l : List PV) (S : List PV → Prop) (w : World) (e : Ending) (w' : World) : Prop := ∃ (l' : List PV) (g cap' : Nat), e = .returned (.slice (some ⟨g, 0, none⟩) l.length cap') ∧ Hid (l.Perm l') ∧ Hid (S l') ∧ Hid (PvAt w' g 0 l') ∧ Hid (Below w.heap.size w w') ∧ Hid (w.heap.size ≤ g)
def SortT (vC : Bs → Bs → Int) : Prop := ∀ (l : List PV), PartN vC l → (∀ x ∈ l, x.1.size ≤ 2147483647 ∧ x.2.size ≤ 2147483647) → l.length ≤ 40 → ∃ S : List PV → Prop, (∀ l1 l2, l.Perm l1 → l.Perm l2 → S l1 → S l2 → l1 = l2) ∧
  ∀ (l2 : List PV), l.Perm l2 → ∀ (b o cap : Nat) (w : World), PvAt w b o l2 → Calls Try.prog 24 #[.slice (some ⟨b, o, none⟩) l.length cap] w (SrtT l S w)

/-! ### rows -/
theorem Below.grows {w w' : World} (h : Below w.heap.size w w') : w.grownBy w' none := ⟨h.os, h.tape, h.output, h.size, fun i hi _ => h.block i hi⟩
theorem txt_self (s : ByteArray) : (s.toList == s.toList) = true := by simp
theorem pv_dq {w : World} {g o : Nat} {l : List PV} (h : PvAt w g o l) (n : Nat) : PvAt (w.drewN n) g o l := h.below (below_dq' (Below.refl w.heap.size w) n) h.1
theorem pv_drop {w : World} {b o : Nat} {l : List PV} (h : PvAt w b o l) (k : Nat) : PvAt w b (o + k * 2) (l.drop k) := by
  refine ⟨h.1, fun j hj => ?_⟩
  have hj' : k + j < l.length := by simp at hj; omega
  have := h.2 (k + j) hj'
  rw [show o + k * 2 + j * 2 = o + (k + j) * 2 from by omega, List.getElem_drop]
  exact this
theorem pv_take {w : World} {b o : Nat} {l : List PV} (h : PvAt w b o l) (k : Nat) : PvAt w b o (l.take k) := by
  refine ⟨h.1, fun j hj => ?_⟩
  have hj' : j < l.length := by simp at hj; omega
  rw [List.getElem_take]
  exact h.2 j hj'
theorem pv_news {w : World} {b o : Nat} {l : List PV} (h : PvAt w b o l) : ∀ j u, (flat2 l)[j]? = some u → w.cell? ((⟨b, o, none⟩ : Addr).add j) = some u := fun j u hu => by
  have hadd : (⟨b, o, none⟩ : Addr).add j = ⟨b, o + j, none⟩ := by unfold Addr.add; split <;> simp_all
  rw [hadd]
  have hlt : j < (flat2 l).length := (List.getElem?_eq_some_iff.1 hu).1
  rw [flat2_len] at hlt
  have hi : j / 2 < l.length := by omega
  have c := h.2 (j / 2) hi
  have f := flat2_at l (j / 2) hi
  rcases Nat.mod_two_eq_zero_or_one j with hm | hm
  · have e : j / 2 * 2 = j := by omega
    rw [e] at c f
    rw [f.1] at hu; cases hu
    exact c.1
  · have e : j / 2 * 2 + 1 = j := by omega
    rw [e] at f
    rw [f.2] at hu; cases hu
    have := c.2
    rwa [Nat.add_assoc, e] at this
theorem flat2_app (a b : List PV) : flat2 (a ++ b) = flat2 a ++ flat2 b := by simp [flat2]
theorem flat2_one (l : List PV) : ∀ u ∈ flat2 l, u.oneCell' = true := fun u hu => by
  simp [flat2, enc2] at hu
  obtain ⟨p, v, _, h | h⟩ := hu <;> subst h <;> rfl

theorem infoIv2 : (Try.prog.info? 24).map (fun i => (i.zero, i.size, i.bytes)) = some (some (.agg #[.string ⟨#[]⟩, .string ⟨#[]⟩]), 2, 32) := by kernel_rfl

/-- what an append is told, and what it leaves -/
def AppIn (w : World) (B : Nat) (v : Value) (n m N : Nat) (xs ys : List PV) (b o : Nat) : Prop := w.ownsRow B 24 2 v n (flat2 xs) ∧ PvAt w b o ys ∧ ys.length = m ∧ N = n + m ∧ 0 < N ∧ N ≤ 100 ∧ B ≤ w.heap.size
def AppOut (w : World) (B : Nat) (v : Value) (N : Nat) (xs ys : List PV) (g cap : Nat) (w' : World) : Prop := w'.ownsRow B 24 2 (.slice (some ⟨g, 0, none⟩) N cap) N (flat2 (xs ++ ys)) ∧ w.grownBy w' v.ownBlock ∧ (v.ownBlock = some g ∨ g = w.heap.size)
theorem app_run {w : World} {B : Nat} {v : Value} {n m N : Nat} {xs ys : List PV} {b o : Nat} (c : Nat) (h : AppIn w B v n m N xs ys b o) (ty : TypeId) :
    ∃ g cap w', (Builtin.append_ #[38, 38] ty #[v, .slice (some ⟨b, o, none⟩) m c]).run Try.prog w = .ok (.slice (some ⟨g, 0, none⟩) N cap) w' ∧ AppOut w B v N xs ys g cap w' := by
  obtain ⟨i0, hi, hz0, hz1, hz2⟩ := info_parts infoIv2
  obtain ⟨hown, hpv, hm, rfl, hpos, hle, hB⟩ := h
  obtain ⟨v', w', hr, h2, h3, _, h5⟩ := run_append_own_at (P := Try.prog) w B 38 ty 24 i0 (.agg #[.string ⟨#[]⟩, .string ⟨#[]⟩]) 2 32 Try.underlying38 hi hz0 hz1 hz2 rfl (by decide) v n (flat2 xs) hown ⟨b, o, none⟩ m c (flat2 ys) (by rw [flat2_len, hm]) (pv_news hpv) (flat2_one ys) (by unfold maxLen; omega) (by omega) hB
  obtain ⟨g, cap, rfl, _, hlt⟩ := h2.form hpos
  refine ⟨g, cap, w', hr, by rw [flat2_app]; exact h2, h3, ?_⟩
  rcases h5 with h5 | h5
  · exact .inl (by rw [← h5]; rfl)
  · right; simpa [Value.ownBlock] using h5
theorem step_app {ops : Array Oper} {o : Oper} {a : Act} {w : World} {K : Act → World → Prop} {Q : Exit → Act → World → Prop} {E : Prop} (hgd : o.guard = none) (s x : Operand)
    (ho : o.op = .call { callee := .builtin .append, args := #[s, x], argTypes := #[38, 38] }) {B : Nat} {v : Value} {n m N : Nat} {xs ys : List PV} {b off : Nat} (c : Nat) (h : AppIn w B v n m N xs ys b off)
    (hs : a.eval s = v) (hx : a.eval x = .slice (some ⟨b, off, none⟩) m c)
    (hk : ∀ g cap w', AppOut w B v N xs ys g cap w' → K (a.put o.dst (.slice (some ⟨g, 0, none⟩) N cap)) w') :
    if Region.wanted o (yielded ops a.tmps) = true then Oper.wp Try.prog o a w K Q else E := by
  have hw : Region.wanted o (yielded ops a.tmps) = true := by simp [Region.wanted, hgd]
  rw [if_pos hw]
  obtain ⟨g, cap, w', hr, hout⟩ := app_run c h o.type
  unfold Oper.wp execOp
  simp only [ho, resolve, invoke, builtin, Sem.run_bind, Sem.run_pure, Result.andThen_ok, List.map_toArray, List.map_cons, List.map_nil, hs, hx, hr]
  exact hk g cap w' hout

/-- in the midst of the statement with the two sorts: g1: the row that the first sort told; nb: the row that is appended to -/
structure R20 (wr W : World) (g1 : Nat) (l1 : List PV) (nb n cp : Nat) (xs : List PV) : Prop where
  below : Below wr.heap.size wr W
  row : PvAt W g1 0 l1
  ne : g1 ≠ nb
  own : W.ownsRow wr.heap.size 24 2 (.slice (some ⟨nb, 0, none⟩) n cp) n (flat2 xs)
theorem r20A {wr wa : World} {g1 : Nat} {l1 : List PV} (hb : Below (wr.drew.alloc (.cells #[] 24)).heap.size (wr.drew.alloc (.cells #[] 24)) wa) (hr : PvAt wa g1 0 l1) (hg : (wr.drew.alloc (.cells #[] 24)).heap.size ≤ g1) : R20 wr wa g1 l1 wr.heap.size 0 0 [] := by
  refine ⟨below_trans (below_al ((Below.refl _ _).drew) _) hb, hr, ?_, ?_⟩
  · have e : (wr.drew.alloc (.cells #[] 24)).heap.size = wr.heap.size + 1 := by simp
    omega
  · exact (World.ownsRow_made (base := wr.heap.size) (size := 2) (e := 24) wr.drew #[] 0 (Nat.le_refl _) (Nat.zero_le _) rfl).kept (Below.grows hb) (.inr (by simp [Value.ownBlock]))
theorem r20B {wr wa : World} {g1 : Nat} {l1 : List PV} (hb : Below wr.drew.heap.size wr.drew wa) (hr : PvAt wa g1 0 l1) : R20 wr (wa.alloc (.cells #[] 24)) g1 l1 wa.heap.size 0 0 [] := by
  have h0 : Below wr.heap.size wr wa := below_trans ((Below.refl wr.heap.size wr).drew) hb
  have h1 := hr.1
  exact ⟨below_al h0 _, hr.below (below_al (Below.refl wa.heap.size wa) _) h1, by omega, World.ownsRow_made (base := wr.heap.size) (size := 2) (e := 24) wa #[] 0 h0.size (Nat.zero_le _) rfl⟩
theorem R20.app {wr W : World} {g1 : Nat} {l1 : List PV} {nb n cp : Nat} {xs : List PV} (h : R20 wr W g1 l1 nb n cp xs) {b off m N : Nat} {ys : List PV} (hp : PvAt wr b off ys) (hm : ys.length = m) (hN : N = n + m) (h0 : 0 < N) (h1 : N ≤ 100) :
    AppIn W wr.heap.size (.slice (some ⟨nb, 0, none⟩) n cp) n m N xs ys b off :=
  ⟨h.own, hp.below h.below hp.1, hm, hN, h0, h1, h.below.size⟩
theorem R20.step {wr W : World} {g1 : Nat} {l1 : List PV} {nb n cp : Nat} {xs : List PV} (h : R20 wr W g1 l1 nb n cp xs) {N : Nat} {ys : List PV} {g cap : Nat} {w' : World} (k : AppOut W wr.heap.size (.slice (some ⟨nb, 0, none⟩) n cp) N xs ys g cap w') :
    R20 wr w' g1 l1 g N cap (xs ++ ys) := by
  obtain ⟨k1, k2, k3⟩ := k
  have hnb := (h.own.lt nb rfl).1
  have hg1 := h.row.1
  have hb : W.grownBy w' (some nb) := k2
  refine ⟨h.below.grown hb h.below.size (fun j hj => by cases hj; exact hnb), ⟨Nat.lt_of_lt_of_le hg1 hb.size, fun j hj => ?_⟩, ?_, k1⟩
  · have c := h.row.2 j hj
    have e : ∀ q, w'.cell? ⟨g1, q, none⟩ = W.cell? ⟨g1, q, none⟩ := fun q => World.cell?_of_block (a := ⟨g1, q, none⟩) (hb.block g1 hg1 (by simpa using h.ne))
    exact ⟨(e _).trans c.1, (e _).trans c.2⟩
  · rcases k3 with k3 | k3
    · have : nb = g := by simpa [Value.ownBlock] using k3
      subst this; exact h.ne
    · omega
theorem R20.fin {wr W : World} {g1 : Nat} {l1 : List PV} {nb n cp : Nat} {xs : List PV} (h : R20 wr W g1 l1 nb n cp xs) : PvAt W nb 0 xs := (pvAt_of_owns h.own).1

/-! ### the map of what was seen -/
def SeenN (w : World) (b n : Nat) : Prop := ∃ D : DataW Unit, w.ownsMap Try.prog 24 (plainElem Try.prog 4) b n D
theorem zeroB (w : World) : (zeroValue 4).run Try.prog w = .ok (.bool false) w := by kernel_rfl
theorem SeenN.made (w : World) : SeenN (w.alloc (.map #[] 0)) w.heap.size 0 := ⟨_, World.ownsMap_made _ _ _ _⟩
theorem SeenN.below {w w' : World} {b n : Nat} (h : SeenN w b n) (hb : Below w.heap.size w w') : SeenN w' b n := by
  obtain ⟨D, h⟩ := h
  exact ⟨D, h.kept (Below.grows hb) (by simp)⟩
theorem SeenN.lt {w : World} {b n : Nat} (h : SeenN w b n) : b < w.heap.size := by
  obtain ⟨D, h⟩ := h
  exact h.lt
theorem SeenN.look {w : World} {b n : Nat} (h : SeenN w b n) {x : PV} (hx : SzV x) : ∃ s : Bool, (Instr.lookup 51 (.map (some b)) (vvV x) false).run Try.prog w = .ok (.bool s) w := by
  obtain ⟨D, h⟩ := h
  obtain ⟨v, ps, hrun, hv⟩ := h.lookup lawK Try.underlying51 (zeroB w) (plainElem_bool Try.underlying4 false) (keyVV hx)
  have hb := Try.underlying4
  cases v <;> simp [plainElem, hb] at hv
  exact ⟨_, hrun⟩
theorem SeenN.put {w : World} {b n : Nat} (h : SeenN w b n) (hn : n < maxLen) {x : PV} (hx : SzV x) : ∃ w', (Instr.mapUpdate 51 (.map (some b)) (vvV x) (.bool true)).run Try.prog w = .ok () w' ∧ SeenN w' b (n + 1) ∧ w.grownBy w' (some b) := by
  obtain ⟨D, h⟩ := h
  obtain ⟨w', hrun, h1, h2⟩ := h.update lawK Try.underlying51 hn (keyVV hx) (plainElem_bool Try.underlying4 true)
  exact ⟨w', hrun, ⟨_, h1⟩, h2⟩
end Go.Proofs.Ytdinaphcglmhoaa
