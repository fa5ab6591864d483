/-
  Two versions of one path with one text ahead of the stroke: plain part, and impl.Sort at the two.
-/
import Derived.Test.YtdinaphcglmhoaaSortI
import Derived.Test.YtdinaphcglmhoaaReadP
namespace Go.Proofs.Ytdinaphcglmhoaa
open Go.RowKit Go.Sort
set_option linter.unusedVariables false

theorem cut_all {b : UInt8} {P : UInt8 → Bool} (l : Bs) (h : ∀ x ∈ cutL l b, ∀ c ∈ x, P c = true) : ∀ c ∈ l, c = b ∨ P c = true := by
  induction l with
  | nil => intro c hc; cases hc
  | cons d r ih =>
    simp only [cutL] at h
    split at h
    · rename_i hd
      intro c hc
      rcases List.mem_cons.1 hc with rfl | hc
      · exact .inl hd
      · exact ih (fun x hx => h x (List.mem_cons_of_mem _ hx)) c hc
    · cases hr : cutL r b with
      | nil => exact absurd hr (cutL_ne r b)
      | cons y t =>
        rw [hr] at h ih
        simp only at h
        have h0 := h (d :: y) (by simp)
        intro c hc
        rcases List.mem_cons.1 hc with rfl | hc
        · exact .inr (h0 _ (by simp))
        · refine ih (fun x hx => ?_) c hc
          rcases List.mem_cons.1 hx with rfl | hx
          · exact fun c hc => h0 c (List.mem_cons_of_mem _ hc)
          · exact h x (List.mem_cons_of_mem _ hx)

theorem parts_no47 {l : Bs} {s : Bool} (h : partsB l s = true) : (47 : UInt8) ∉ l := fun hm => by
  have := cut_all (b := 46) (P := okB true true [45]) l (fun x hx c hc => by
    unfold partsB at h
    have := List.all_eq_true.1 h x hx
    unfold pieceB at this
    rw [Bool.and_eq_true, Bool.and_eq_true] at this
    exact List.all_eq_true.1 this.2.1 c hc) 47 hm
  rcases this with h | h
  · cases h
  · revert h; decide
theorem nums_no47 {l : Bs} (h : (cutL l 46).all numB = true) : (47 : UInt8) ∉ l := fun hm => by
  have := cut_all (b := 46) (P := isD) l (fun x hx c hc => by
    have := List.all_eq_true.1 h x hx
    unfold numB at this
    rw [Bool.and_eq_true, digB_eq, Bool.and_eq_true] at this
    exact List.all_eq_true.1 this.1.2 c hc) 47 hm
  rcases this with h | h
  · cases h
  · revert h; decide

theorem drop_no {l : Bs} {c : UInt8} (h : l = [] ∨ l[0]? = some c) (hc : c ≠ 47) (hd : l ≠ [] → (47 : UInt8) ∉ l.drop 1) : (47 : UInt8) ∉ l := by
  cases l with
  | nil => simp
  | cons d r =>
    rcases h with h | h
    · cases h
    · simp at h; subst h
      have := hd (by simp)
      simp at this ⊢
      exact ⟨Ne.symm hc, this⟩
theorem dropWhile_head {l : Bs} {P : UInt8 → Bool} {c : UInt8} (hP : ∀ d, P d = false → d = c) : l.dropWhile P = [] ∨ (l.dropWhile P)[0]? = some c := by
  induction l with
  | nil => exact .inl rfl
  | cons d r ih =>
    rw [List.dropWhile_cons]
    cases h : P d with
    | true => simpa using ih
    | false => exact .inr (by simp [hP d h])

theorem read_no47 {l : Bs} {r : Rv} (h : readV l = some r) : (47 : UInt8) ∉ l := by
  unfold readV at h
  split at h
  · rename_i h0
    unfold readL at h
    split at h
    · cases h
    · rename_i hn
      split at h
      · rename_i hnum
        simp only [not_or, not_and] at hn
        obtain ⟨_, _, hp, hb⟩ := hn
        have hl := head_drop h0
        generalize l.drop 1 = m at *
        subst hl
        have hA := nums_no47 hnum
        have hB : (47 : UInt8) ∉ (m.takeWhile np).dropWhile nd := drop_no (c := 45) (dropWhile_head (fun d hd => by unfold nd at hd; simpa using hd)) (by decide) (fun hne => parts_no47 (s := true) (by simpa using hp hne))
        have hC : (47 : UInt8) ∉ m.dropWhile np := drop_no (c := 43) (dropWhile_head (fun d hd => by
            rcases Classical.em (d = 43) with e | e
            · exact e
            · rw [np_iff.2 e] at hd; cases hd)) (by decide) (fun hne => parts_no47 (s := false) (by simpa using hb hne))
        intro hm
        rcases List.mem_cons.1 hm with e | hm
        · revert e; decide
        · rw [← List.takeWhile_append_dropWhile (p := np) (l := m), List.mem_append] at hm
          rcases hm with hm | hm
          · rw [← List.takeWhile_append_dropWhile (p := nd) (l := m.takeWhile np), List.mem_append] at hm
            rcases hm with hm | hm
            · exact hA hm
            · exact hB hm
          · exact hC hm
      · cases h
  · cases h

/-- the text of a version with a stroke and a text behind it -/
def stv (v a : ByteArray) : ByteArray := v ++ ⟨#[47]⟩ ++ a
theorem stv_data (v a : ByteArray) : (stv v a).data.toList = v.data.toList ++ 47 :: a.data.toList := by
  unfold stv; simp [ByteArray.data_append]
theorem stv_size (v a : ByteArray) : (stv v a).size = v.size + 1 + a.size := by
  rw [← size_len, stv_data, List.length_append, List.length_cons, size_len, size_len]; omega
theorem stv_stroke {v : ByteArray} (a : ByteArray) (hv : (47 : UInt8) ∉ v.data.toList) : StrokeAt (stv v a) v.size := by
  refine ⟨by rw [stv_size]; omega, ?_, ?_⟩
  · rw [stv_data, ← size_len v, List.getElem?_append_right (Nat.le_refl _)]; simp
  · rw [stv_data, ← size_len v, List.take_left]; exact hv
theorem stv_take (v a b : ByteArray) : (stv v a).data.toList.take v.size = (stv v b).data.toList.take v.size := by
  rw [stv_data, stv_data, ← size_len v, List.take_left, List.take_left]
theorem stv_tail (v a : ByteArray) : ((stv v a).extract v.size (stv v a).size).toList = 47 :: a.toList := by
  rw [Lib.toList_data, Lib.toList_data, extract_drop, stv_data, ← size_len v, List.drop_left]

theorem less_asym : ∀ (x y : Bs), Op.bytesLess x y = true → Op.bytesLess y x = false
  | [], [], h => by simp [Op.bytesLess] at h
  | [], _ :: _, _ => by simp [Op.bytesLess]
  | _ :: _, [], h => by simp [Op.bytesLess] at h
  | a :: x, b :: y, h => by
    simp only [Op.bytesLess, Bool.or_eq_true, decide_eq_true_eq, Bool.and_eq_true, beq_iff_eq] at h
    simp only [Op.bytesLess, Bool.or_eq_false_iff, decide_eq_false_iff_not, Bool.and_eq_false_iff, beq_eq_false_iff_ne]
    rcases h with h | ⟨rfl, h⟩
    · exact ⟨fun k => by have h1 := UInt8.lt_iff_toNat_lt.1 h; have h2 := UInt8.lt_iff_toNat_lt.1 k; omega, .inl (fun e => by subst e; exact absurd h (by have := UInt8.lt_irrefl b; exact this))⟩
    · exact ⟨by exact UInt8.lt_irrefl a, .inr (less_asym x y h)⟩
theorem less_irrefl (x : Bs) : Op.bytesLess x x = false := by
  cases h : Op.bytesLess x x with
  | false => rfl
  | true => have := less_asym x x h; rw [h] at this; cases this

def pvB (p v a b : ByteArray) : Bool → PV := fun t => (p, stv v (if t then b else a))
def cfB (v a b : ByteArray) (s t : Bool) : Int := cmpS ((pvB v v a b s).2.extract v.size (pvB v v a b s).2.size) ((pvB v v a b t).2.extract v.size (pvB v v a b t).2.size)
theorem cfB_eq (v a b : ByteArray) (h : Op.bytesLess a.toList b.toList = true) (s t : Bool) : ltOf (cfB v a b) s t = (!s && t) := by
  have h1 := less_asym _ _ h
  have ha := less_irrefl a.toList
  have hb := less_irrefl b.toList
  have hn : (b.toList == a.toList) = false := beq_eq_false_iff_ne.2 (fun e => by rw [e] at h; rw [ha] at h; cases h)
  unfold ltOf cfB cmpS pvB
  simp only [stv_tail, Op.bytesLess]
  cases s <;> cases t <;> simp_all
theorem swoB (v a b : ByteArray) (h : Op.bytesLess a.toList b.toList = true) : SWO (ltOf (cfB v a b)) where
  irrefl x := by rw [cfB_eq v a b h]; cases x <;> rfl
  trans x y z h1 h2 := by rw [cfB_eq v a b h] at *; revert h1 h2; cases x <;> cases y <;> cases z <;> decide
  ntrans x y z h1 h2 := by rw [cfB_eq v a b h] at *; revert h1 h2; cases x <;> cases y <;> cases z <;> decide

theorem closB (p v a b : ByteArray) (hv : (47 : UInt8) ∉ v.data.toList) (sv : v.size ≤ 1073741824) (sa : a.size ≤ 2147483647) (sb : b.size ≤ 2147483647) : ClosTells (pvB p v a b) (cfB v a b) := fun x y W => by
  have s1 : ∀ t : Bool, (stv v (if t then b else a)).size ≤ 4294967296 := fun t => by rw [stv_size]; cases t <;> simp <;> omega
  exact clos_same p _ _ v.size W (s1 x) (s1 y) (stv_stroke _ hv) (stv_stroke _ hv) (stv_take v _ _)

theorem sorted_two {v a b : ByteArray} (h : Op.bytesLess a.toList b.toList = true) {c : Bool} {l : List Bool} (hp : [c, !c].Perm l) (hs : SortedIn (ltOf (cfB v a b)) 0 2 l.toArray) : l = [false, true] := by
  have hl := hp.length_eq
  match l, hl with
  | [x, y], _ =>
    have h0 := hs 0 1 (Nat.le_refl _) (by decide) (by decide)
    rw [cfB_eq v a b h] at h0
    have hx := hp.subset (show c ∈ [c, !c] from by simp)
    have hy := hp.subset (show (!c) ∈ [c, !c] from by simp)
    revert h0 hx hy
    cases x <;> cases y <;> cases c <;> simp

/-- impl.Sort at the two, in whatever order -/
theorem sort_two (p v a b : ByteArray) (hv : (47 : UInt8) ∉ v.data.toList) (sv : v.size ≤ 1073741824) (sa : a.size ≤ 2147483647) (sb : b.size ≤ 2147483647) (h : Op.bytesLess a.toList b.toList = true) (c : Bool) (g cap : Nat) (w : World) (hg : g < w.heap.size)
    (c0 : w.cell? ⟨g, 0, none⟩ = some (.string p)) (c1 : w.cell? ⟨g, 1, none⟩ = some (.string (stv v (if c then b else a)))) (c2 : w.cell? ⟨g, 2, none⟩ = some (.string p)) (c3 : w.cell? ⟨g, 3, none⟩ = some (.string (stv v (if c then a else b)))) :
    Calls Try.prog 24 #[.slice (some ⟨g, 0, none⟩) 2 cap] w fun e w' => ∃ g' cap', e = .returned (.slice (some ⟨g', 0, none⟩) 2 cap') ∧
      (w'.cell? ⟨g', 0, none⟩ = some (.string p) ∧ w'.cell? ⟨g', 1, none⟩ = some (.string (stv v a)) ∧ w'.cell? ⟨g', 2, none⟩ = some (.string p) ∧ w'.cell? ⟨g', 3, none⟩ = some (.string (stv v b))) ∧ Below w.heap.size w w' ∧ w.heap.size ≤ g' := by
  have hin : PvAt w g 0 ([c, !c].map (pvB p v a b)) := ⟨hg, fun j hj => by
    match j, hj with
    | 0, _ => exact ⟨by simpa [pvB] using c0, by simpa [pvB] using c1⟩
    | 1, _ => exact ⟨by simpa [pvB] using c2, by cases c <;> simpa [pvB] using c3⟩⟩
  refine (implSort (pvB p v a b) (cfB v a b) (swoB v a b h) (closB p v a b hv sv sa sb) [c, !c] g 0 cap w hin (by simp)).mono ?_
  rintro e w' ⟨l', g', cap', he, hp, hs, hr, hb, hw⟩
  obtain rfl := sorted_two h hp hs
  refine ⟨g', cap', he, ?_, hb, hw⟩
  have r0 := hr.2 0 (by simp)
  have r1 := hr.2 1 (by simp)
  simp [pvB] at r0 r1
  exact ⟨r0.1, r0.2, r1.1, r1.2⟩

theorem blk_new (w : World) (o : Obj) (n : Nat) (hn : n = w.heap.size) : (w.alloc o).heap[n]? = some o := by subst hn; exact heap_alloc_new w o
theorem blk_old (w : World) (o : Obj) (n : Nat) (v : Obj) (hn : n < w.heap.size) (h : w.heap[n]? = some v) : (w.alloc o).heap[n]? = some v := (heap_alloc_old w o hn).trans h
/-- a row of two pairs in block g -/
def Row2 (w : World) (g : Nat) (t : TypeId) (p x q y : ByteArray) : Prop := w.heap[g]? = some (.cells #[.string p, .string x, .string q, .string y] t (0, 0))
theorem Row2.lt {w : World} {g : Nat} {t : TypeId} {p x q y : ByteArray} (h : Row2 w g t p x q y) : g < w.heap.size := by
  rcases Nat.lt_or_ge g w.heap.size with h' | h'
  · exact h'
  · unfold Row2 at h; rw [Array.getElem?_eq_none h'] at h; cases h
theorem Row2.below {w w' : World} {g : Nat} {t : TypeId} {p x q y : ByteArray} (h : Row2 w g t p x q y) (hb : Below w.heap.size w w') : Row2 w' g t p x q y := (hb.block g h.lt).trans h
theorem Row2.drew {w : World} {g : Nat} {t : TypeId} {p x q y : ByteArray} (h : Row2 w g t p x q y) : Row2 w.drew g t p x q y := h
theorem Row2.alloc {w : World} {g : Nat} {t : TypeId} {p x q y : ByteArray} (h : Row2 w g t p x q y) (o : Obj) : Row2 (w.alloc o) g t p x q y := blk_old w o g _ h.lt h
theorem Row2.new (w : World) (g : Nat) (t : TypeId) (p x q y : ByteArray) (hg : g = w.heap.size) : Row2 (w.alloc (.cells #[.string p, .string x, .string q, .string y] t)) g t p x q y := blk_new w _ g hg

/-- what a sort leaves: the two in their order, whatever comes behind -/
def Done2 (w : World) (g : Nat) (p x y : ByteArray) : Prop := (w.cell? ⟨g, 0, none⟩ = some (.string p) ∧ w.cell? ⟨g, 1, none⟩ = some (.string x)) ∧ (w.cell? ⟨g, 2, none⟩ = some (.string p) ∧ w.cell? ⟨g, 3, none⟩ = some (.string y))
theorem Done2.below {w w' : World} {g : Nat} {p x y : ByteArray} (h : Done2 w g p x y) (hb : Below w.heap.size w w') : Done2 w' g p x y :=
  have hg : g < w.heap.size := World.block_lt_of_cell? w _ h.1.1
  ⟨⟨(hb.cell (p := ⟨g, 0, none⟩) hg).trans h.1.1, (hb.cell (p := ⟨g, 1, none⟩) hg).trans h.1.2⟩, ⟨(hb.cell (p := ⟨g, 2, none⟩) hg).trans h.2.1, (hb.cell (p := ⟨g, 3, none⟩) hg).trans h.2.2⟩⟩
theorem Done2.alloc {w : World} {g : Nat} {p x y : ByteArray} (h : Done2 w g p x y) (o : Obj) : Done2 (w.alloc o) g p x y := h.below ((Below.refl _ _).alloc (Nat.le_refl _) o)

def SortE (p x y : ByteArray) (w : World) (e : Ending) (w' : World) : Prop := ∃ g cap, e = .returned (.slice (some ⟨g, 0, none⟩) 2 cap) ∧ Done2 w' g p x y ∧ Hid (Below w.heap.size w w')

theorem sort_row (p v a b : ByteArray) (hv : (47 : UInt8) ∉ v.data.toList) (sv : v.size ≤ 1073741824) (sa : a.size ≤ 2147483647) (sb : b.size ≤ 2147483647) (h : Op.bytesLess a.toList b.toList = true) (c : Bool) (g cap : Nat) (t : TypeId) (w : World)
    (hr : Row2 w g t p (stv v (if c then b else a)) p (stv v (if c then a else b))) :
    Calls Try.prog 24 #[.slice (some ⟨g, 0, none⟩) 2 cap] w (SortE p (stv v a) (stv v b) w) :=
  (sort_two p v a b hv sv sa sb h c g cap w hr.lt (cell_of_row w g 0 _ t (0, 0) hr) (cell_of_row w g 1 _ t (0, 0) hr) (cell_of_row w g 2 _ t (0, 0) hr) (cell_of_row w g 3 _ t (0, 0) hr)).mono
    fun e w' ⟨g', cap', he, hc, hb, _⟩ => ⟨g', cap', he, ⟨⟨hc.1, hc.2.1⟩, ⟨hc.2.2.1, hc.2.2.2⟩⟩, Lib.hid hb⟩
end Go.Proofs.Ytdinaphcglmhoaa
