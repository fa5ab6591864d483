/-
  What the walks of FnSort and FnSortTwice stand on: contracts over whatever comparison of versions; the plain part.
-/
import Derived.Test.YtdinaphcglmhoaaPv
import Derived.Test.YtdinaphcglmhoaaCut
import Derived.Test.YtdinaphcglmhoaaFits
import Derived.Test.YtdinaphcglmhoaaMapN
namespace Go.Proofs.Ytdinaphcglmhoaa
open Go.RowKit
set_option linter.unusedVariables false

theorem below_trans {w w1 w2 : World} (h : Below w.heap.size w w1) (k : Below w1.heap.size w1 w2) : Below w.heap.size w w2 := h.trans (k.mono h.size)

theorem below_dq' {g : Nat} {w w' : World} (h : Below g w w') (n : Nat) : Below g w (w'.drewN n) := by
  induction n with
  | zero => exact h
  | succ n ih => exact ih.drew

def HdT (v : ByteArray) : ByteArray := tx (hdV v.data.toList)
theorem HdT_size (v : ByteArray) : (HdT v).size ≤ v.size := by
  unfold HdT; rw [tx_size]; have := hdV_len v.data.toList; rw [size_len] at this; exact this
theorem HdT_eq {v u : ByteArray} : (HdT v).toList = (HdT u).toList ↔ hdV v.data.toList = hdV u.data.toList := by
  rw [Lib.toList_data, Lib.toList_data]; unfold HdT; rw [tx_data, tx_data]

def CutE (v : ByteArray) (w : World) (e : Ending) (w' : World) : Prop := ∃ (g n cap : Nat), e = .returned (.slice (some ⟨g, 0, none⟩) n cap) ∧ 0 < n ∧ n ≤ 4294967297 ∧ Hid (Below w.heap.size w w') ∧ w.heap.size ≤ g ∧ Hid (g < w'.heap.size) ∧ w'.cell? ⟨g, 0, none⟩ = some (.string (HdT v))
theorem cut47 (v : ByteArray) (w : World) (hv : v.size ≤ 2147483647) : Calls Try.prog 23 #[.string v, .int .u8 47] w (CutE v w) :=
  (cut_new v 47 w (by omega)).mono fun e w' ⟨g, cap, he, hr, hb, hg⟩ => by
    refine ⟨g, _, cap, he, List.length_pos_iff.2 (cutL_ne _ _), ?_, Lib.hid hb, hg, Lib.hid hr.1, hr.2 0 _ (cutL_hd _)⟩
    have := cutL_len v.data.toList 47
    rw [size_len] at this; omega

theorem txt_ne {x y : ByteArray} (h : (x.toList == y.toList) = false) : x.data.toList ≠ y.data.toList := by
  rw [Lib.toList_data, Lib.toList_data] at h; simpa using h
theorem txt_eq {x y : ByteArray} (h : (x.toList == y.toList) = true) : x.data.toList = y.data.toList := by
  rw [Lib.toList_data, Lib.toList_data] at h; simpa using h

/-- contract of the comparison -/
def CmpK (vC : Bs → Bs → Int) : Prop := ∀ (v u : ByteArray) (w : World), v.size ≤ 2147483647 → u.size ≤ 2147483647 →
  Calls Try.prog 20 #[.string v, .string u] w fun e w' => e = .returned (.int .i64 (vC v.data.toList u.data.toList)) ∧ Below w.heap.size w w'
def CmE (n : Int) (w : World) (e : Ending) (w' : World) : Prop := e = .returned (.int .i64 n) ∧ Hid (Below w.heap.size w w')
theorem CmpK.hd {vC : Bs → Bs → Int} (h : CmpK vC) (v u : ByteArray) (w : World) (hv : v.size ≤ 2147483647) (hu : u.size ≤ 2147483647) :
    Calls Try.prog 20 #[.string (HdT v), .string (HdT u)] w (CmE (vC (hdV v.data.toList) (hdV u.data.toList)) w) :=
  (h (HdT v) (HdT u) w (Nat.le_trans (HdT_size v) hv) (Nat.le_trans (HdT_size u) hu)).mono fun e w' ⟨he, hb⟩ => by
    refine ⟨?_, Lib.hid hb⟩
    rw [he]; unfold HdT; rw [tx_data, tx_data]

/-- two of one path with other texts ahead of the stroke do not compare alike -/
def OkP (vC : Bs → Bs → Int) (x y : PV) : Prop := x.1.data.toList = y.1.data.toList → hdV x.2.data.toList ≠ hdV y.2.data.toList → vC (hdV x.2.data.toList) (hdV y.2.data.toList) ≠ 0
def PartG (vC : Bs → Bs → Int) (l : List PV) : Prop := ∀ x ∈ l, ∀ y ∈ l, OkP vC x y
def OkTo (vC : Bs → Bs → Int) (l : List PV) (x : PV) (j : Nat) : Prop := ∀ y ∈ l.take j, OkP vC x y
theorem OkTo.zero {vC : Bs → Bs → Int} {l : List PV} {x : PV} : OkTo vC l x 0 := fun y hy => by simp at hy
theorem OkTo.step {vC : Bs → Bs → Int} {l : List PV} {x : PV} {j : Nat} (h : OkTo vC l x j) (hj : j < l.length) (hk : OkP vC x l[j]) : OkTo vC l x (j + 1) := fun y hy => by
  rw [List.take_succ_eq_append_getElem hj, List.mem_append] at hy
  rcases hy with hy | hy
  · exact h y hy
  · simp at hy; subst hy; exact hk
theorem PartG.zero {vC : Bs → Bs → Int} {l : List PV} : PartG vC (l.take 0) := fun y hy => by simp at hy
theorem PartG.step {vC : Bs → Bs → Int} (hF : ∀ a b, vC a b = 0 → vC b a = 0) {l : List PV} {k : Nat} (h : PartG vC (l.take k)) (hk : k < l.length) (ho : OkTo vC l l[k] k) : PartG vC (l.take (k + 1)) := fun x hx y hy => by
  rw [List.take_succ_eq_append_getElem hk, List.mem_append] at hx hy
  rcases hx with hx | hx <;> rcases hy with hy | hy
  · exact h x hx y hy
  · simp at hy; subst hy
    exact fun e n z => ho x hx e.symm (Ne.symm n) (hF _ _ z)
  · simp at hx; subst hx; exact ho y hy
  · simp at hx hy; subst hx; subst hy; exact fun _ n => absurd rfl n

/-- what the last loop asks of two neighbours -/
def NextOk (vC : Bs → Bs → Int) (x y : PV) : Prop := (x.1.data.toList ≠ y.1.data.toList → Op.bytesLess x.1.toList y.1.toList = true) ∧ (x.1.data.toList = y.1.data.toList → vC (hdV x.2.data.toList) (hdV y.2.data.toList) ≤ 0 ∧ 0 ≤ vC (hdV y.2.data.toList) (hdV x.2.data.toList))
def SrtG (vC : Bs → Bs → Int) (l : List PV) (w : World) (e : Ending) (w' : World) : Prop := ∃ (l' : List PV) (g cap' : Nat), e = .returned (.slice (some ⟨g, 0, none⟩) l.length cap') ∧ Hid (l.Perm l') ∧ Hid (∀ i (h : i + 1 < l'.length), NextOk vC (l'[i]'(by omega)) l'[i + 1]) ∧ Hid (PvAt w' g 0 l') ∧ Hid (Below w.heap.size w w')
/-- contract of the sort -/
def SortK (vC : Bs → Bs → Int) : Prop := ∀ (l : List PV), PartG vC l → (∀ x ∈ l, x.1.size ≤ 2147483647 ∧ x.2.size ≤ 2147483647) → ∀ (b o cap : Nat) (w : World), PvAt w b o l → l.length ≤ 40 →
  Calls Try.prog 24 #[.slice (some ⟨b, o, none⟩) l.length cap] w (SrtG vC l w)

/-- the two stores of a round of counting: the first at wr behind a draw, the second behind one more -/
def CntRound (M k : Nat) (A B : List Lit) (x y : PV) (W wr : World) (c c' : Int) (st st' : Value) (u1 u2 v1 v2 : World) : Prop :=
  UpAt wr.drew M (2 * k) A B x c (c + 1) (A ++ [klV x]) B st u1 u2 ∧ UpAt u2.drew M (2 * k + 1) (A ++ [klV x]) B y c' (c' - 1) (A ++ [klV x]) (B ++ [klV y]) st' v1 v2 ∧ Below M W u2 ∧ Below M W v2
theorem cntRound {M k : Nat} {A B : List Lit} {x y : PV} {W wr : World} (h : CntN wr M (2 * k) A B) (hb : Below M W wr) (hk : k ≤ 40) (hx : SzV x) (hy : SzV y) (hA : A.length ≤ 40) (hB : B.length ≤ 40) :
    ∃ c c' st st' u1 u2 v1 v2, (-100 ≤ c ∧ c ≤ 100) ∧ (-100 ≤ c' ∧ c' ≤ 100) ∧ CntRound M k A B x y W wr c c' st st' u1 u2 v1 v2 := by
  obtain ⟨c, st, u1, u2, hc1, hc2, U⟩ := CntN.up (w := wr.drew) (h := h.drew) (x := x) (by unfold maxLen; omega) hx (by omega) (by omega)
  have hM : M < wr.heap.size := MapN.lt h
  have B1 : Below M W u2 := hb.drew.grown U.2.2.2.2.2 (Nat.le_of_lt hM) (fun j hj => by injection hj with hj; omega)
  have hM2 : M < u2.heap.size := MapN.lt U.2.2.2.2.1
  obtain ⟨c', st', v1, v2, hd1, hd2, V⟩ := CntN.down (w := u2.drew) (h := (U.2.2.2.2.1).drew) (x := y) (by unfold maxLen; omega) hy (by simp; omega) (by omega)
  have B2 : Below M W v2 := B1.drew.grown V.2.2.2.2.2 (Nat.le_of_lt hM2) (fun j hj => by injection hj with hj; omega)
  exact ⟨c, c', st, st', u1, u2, v1, v2, ⟨hc1, hc2⟩, ⟨hd1, hd2⟩, U, V, B1, B2⟩

/-- what the range tells of an entry is nought -/
theorem count_zero {D : DataW Unit} (hD : ∀ k, WideAt.IsKeyLit k → D.atKey k (.lit (.int .i64 0)) = .lit (.int .i64 0)) {x : Value} {kl : Lit} {c : Int} {y : DataW Unit × List MemPlace} (hkey : keyOf Try.prog 24 x = some kl)
    (hv : plainElem Try.prog 3 (.int .i64 c) = some y) (hat : ∀ zd, D.atKey kl zd = y.1) : c = 0 := by
  obtain ⟨c', e1, rfl, -⟩ := plainElem_int_inv Try.underlying3 hv
  cases e1
  have := (hat (.lit (.int .i64 0))).symm.trans (hD kl (lawK.key hkey))
  simpa using this
theorem elem_int (v : Value) (y : DataW Unit × List MemPlace) (h : plainElem Try.prog 3 v = some y) : ∃ c : Int, v = .int .i64 c := by
  obtain ⟨c, e, -⟩ := plainElem_int_inv Try.underlying3 h
  exact ⟨c, e⟩

theorem szV_of {x : PV} (h : x.1.size ≤ 2147483647 ∧ x.2.size ≤ 2147483647) : SzV (x.1, x.2) :=
  ⟨Nat.le_trans h.1 (by unfold maxLen; omega), Nat.le_trans h.2 (by unfold maxLen; omega)⟩
theorem fits_all {l : List PV} (h : l.all fits1 = true) : ∀ x ∈ l, x.1.size ≤ 2147483647 ∧ x.2.size ≤ 2147483647 := fun x hx => by
  have := List.all_eq_true.1 h x hx
  simpa [fits1] using this
end Go.Proofs.Ytdinaphcglmhoaa
