/-
  spec.Read and parse answer alike; what the canonical form is: plain part.
-/
import Derived.Test.YtdinaphcglmhoaaReadP
import Derived.Test.YtdinaphcglmhoaaSplitP
namespace Go.Proofs.Ytdinaphcglmhoaa
open Go.RowKit

def toSv (r : Rv) : Sv := ⟨r.n0, r.n1, r.n2, if r.told = 1 then [46, 48, 46, 48] else if r.told = 2 then [46, 48] else [], r.pre, r.plus⟩

theorem cutL_no {x : Bs} {b : UInt8} (h : b ∉ x) : cutL x b = [x] := by
  have := cutL_app [] x b h
  rw [cutL_app2 [] x b] at this
  have e : cutL [] b = [[]] := rfl
  rw [e] at this
  simpa using this
def joinL : List Bs → UInt8 → Bs
  | [], _ => []
  | [x], _ => x
  | x :: y :: r, b => x ++ b :: joinL (y :: r) b
theorem joinL_cons (x : Bs) (b : UInt8) (r : List Bs) (h : r ≠ []) : joinL (x :: r) b = x ++ b :: joinL r b := by
  cases r with
  | nil => exact absurd rfl h
  | cons y r => rfl
theorem joinL_head (c : UInt8) (x : Bs) (r : List Bs) (b : UInt8) : joinL ((c :: x) :: r) b = c :: joinL (x :: r) b := by
  cases r with
  | nil => rfl
  | cons y r => rfl
theorem joinL_cut (l : Bs) (b : UInt8) : joinL (cutL l b) b = l := by
  induction l with
  | nil => rfl
  | cons c r ih =>
    unfold cutL
    split
    · rename_i h
      rw [joinL_cons _ _ _ (cutL_ne r b), ih, h]; rfl
    · cases h : cutL r b with
      | nil => exact absurd h (cutL_ne r b)
      | cons x t =>
        rw [h] at ih
        simp only
        rw [joinL_head, ih]

theorem dropWhile_head (p : UInt8 → Bool) (l : Bs) : l.dropWhile p = [] ∨ ∃ c y, l.dropWhile p = c :: y ∧ p c = false := by
  induction l with
  | nil => exact .inl rfl
  | cons c l ih =>
    by_cases h : p c = true
    · rw [List.dropWhile_cons, if_pos h]; exact ih
    · rw [List.dropWhile_cons, if_neg h]; exact .inr ⟨c, l, rfl, by simpa using h⟩
theorem nd_iff {c : UInt8} : nd c = true ↔ c ≠ 45 := by unfold nd; simp

theorem read_dec {l : Bs} {r : Rv} (h : readV l = some r) : Dec l (toSv r) := by
  unfold readV at h
  split at h
  · rename_i h0
    have hl := head_drop h0
    generalize l.drop 1 = a at *
    subst hl
    have ha : a = a.takeWhile np ++ a.dropWhile np := (List.takeWhile_append_dropWhile).symm
    have hplus := dropWhile_head np a
    generalize a.takeWhile np = A at *
    generalize a.dropWhile np = plus at *
    subst ha
    have hA : A = A.takeWhile nd ++ A.dropWhile nd := (List.takeWhile_append_dropWhile).symm
    have hpre := dropWhile_head nd A
    generalize A.takeWhile nd = core at *
    generalize A.dropWhile nd = pre at *
    subst hA
    have hj := joinL_cut core 46
    have hLne := cutL_ne core 46
    generalize cutL core 46 = L at *
    subst hj
    unfold readL at h
    split at h
    · cases h
    · rename_i hn
      split at h
      · rename_i hall
        injection h with h; subst h
        have h3 : L.length ≤ 3 := by
          rcases Nat.lt_or_ge 3 L.length with h | h
          · exact absurd (.inl h) hn
          · exact h
        have hp : PreOk pre := by
          rcases hpre with rfl | ⟨c, y, rfl, hc⟩
          · exact .inl rfl
          · have hc' : c = 45 := by simpa [nd] using hc
            subst hc'
            refine .inr ⟨y, rfl, ?_⟩
            cases hb : partsB y true
            · exact absurd (.inr (.inr (.inl ⟨by simp, hb⟩))) hn
            · rfl
        have hb : BldOk plus := by
          rcases hplus with rfl | ⟨c, y, rfl, hc⟩
          · exact .inl rfl
          · have hc' : c = 43 := by simpa [np, isPlus] using hc
            subst hc'
            refine .inr ⟨y, rfl, ?_⟩
            cases hb : partsB y false
            · exact absurd (.inr (.inr (.inr ⟨by simp, hb⟩))) hn
            · rfl
        have hsh : L.length < 3 → pre = [] ∧ plus = [] := by
          intro h
          constructor
          · refine Classical.byContradiction fun e => hn (.inr (.inl ⟨h, .inl e⟩))
          · refine Classical.byContradiction fun e => hn (.inr (.inl ⟨h, .inr e⟩))
        match L, h3, hall, hsh, hLne with
        | [], _, hall, hsh, hne => exact absurd rfl hne
        | [x], _, hall, hsh, _ =>
          obtain ⟨rfl, rfl⟩ := hsh (by simp)
          refine .inl ⟨by simp [toSv], rfl, rfl, rfl, rfl, ?_, ?_⟩
          · have hall' : numB x = true := by simpa using hall
            exact hall'
          · simp [toSv, joinL]
        | [x, y], _, hall, hsh, _ =>
          obtain ⟨rfl, rfl⟩ := hsh (by simp)
          have hall' : numB x = true ∧ numB y = true := by simpa using hall
          refine .inr (.inl ⟨by simp [toSv], rfl, rfl, rfl, hall'.1, hall'.2, ?_⟩)
          simp [toSv, joinL]
        | [x, y, z], _, hall, hsh, _ =>
          have hall' : numB x = true ∧ numB y = true ∧ numB z = true := by simpa using hall
          refine .inr (.inr ⟨by simp [toSv], hall'.1, hall'.2.1, hall'.2.2, hp, hb, ?_⟩)
          simp [toSv, joinL]
      · cases h
  · cases h

theorem numB_np {x : Bs} (h : numB x = true) : ∀ c ∈ x, np c = true ∧ nd c = true ∧ c ≠ 46 := by
  intro c hc
  have := (numB_D h).2 c hc
  unfold isD at this
  rw [np_iff, nd_iff]
  refine ⟨?_, ?_, ?_⟩ <;> (rintro rfl; revert this; decide)
theorem numB_cut {x : Bs} (h : numB x = true) : cutL x 46 = [x] := cutL_no fun hm => (numB_np h _ hm).2.2 rfl
theorem tw_all {p : UInt8 → Bool} {x r : Bs} (h : ∀ c ∈ x, p c = true) (hr : r = [] ∨ ∃ c, r[0]? = some c ∧ p c = false) : (x ++ r).takeWhile p = x ∧ (x ++ r).dropWhile p = r := by
  have := takeWhile_at (p := p) (l := x ++ r) (k := x.length) (by simpa using h) (by
    rcases hr with rfl | ⟨c, hc, hp⟩
    · left; simp
    · right; exact ⟨c, by rw [List.getElem?_append_right (Nat.le_refl _)]; simpa using hc, hp⟩)
  simpa using this
theorem readV_of {core pre plus : Bs} (h1 : ∀ c ∈ core, np c = true ∧ nd c = true) (hp : PreOk pre) (hb : BldOk plus) : readV (118 :: (core ++ (pre ++ plus))) = readL (cutL core 46) pre plus := by
  have e1 := tw_all (p := np) (x := core ++ pre) (r := plus) (by
    intro c hc
    rcases List.mem_append.1 hc with hc | hc
    · exact (h1 c hc).1
    · rcases hp with rfl | ⟨y, rfl, hy⟩
      · cases hc
      · rcases List.mem_cons.1 hc with rfl | hc
        · decide
        · exact partsB_np hy c hc) (by
    rcases hb with rfl | ⟨y, rfl, _⟩
    · exact .inl rfl
    · exact .inr ⟨43, rfl, rfl⟩)
  have e2 := tw_all (p := nd) (x := core) (r := pre) (fun c hc => (h1 c hc).2) (by
    rcases hp with rfl | ⟨y, rfl, _⟩
    · exact .inl rfl
    · exact .inr ⟨45, rfl, rfl⟩)
  rw [List.append_assoc] at e1
  unfold readV
  rw [if_pos (by simp)]
  show readL (cutL ((List.takeWhile np (core ++ (pre ++ plus))).takeWhile nd) 46) ((List.takeWhile np (core ++ (pre ++ plus))).dropWhile nd) (List.dropWhile np (core ++ (pre ++ plus))) = _
  rw [e1.1, e1.2, e2.1, e2.2]
theorem readL_of {L : List Bs} {pre plus : Bs} (h3 : L.length ≤ 3) (hsh : L.length < 3 → pre = [] ∧ plus = []) (hp : PreOk pre) (hb : BldOk plus) (hall : L.all numB = true) : readL L pre plus = some ⟨L.getD 0 [48], L.getD 1 [48], L.getD 2 [48], pre, plus, L.length⟩ := by
  unfold readL
  rw [if_neg, if_pos hall]
  rintro (h | ⟨h, h' | h'⟩ | ⟨h', h⟩ | ⟨h', h⟩)
  · omega
  · exact h' (hsh h).1
  · exact h' (hsh h).2
  · rcases hp with rfl | ⟨y, rfl, hy⟩
    · exact h' rfl
    · have : partsB y true = false := h
      rw [hy] at this; cases this
  · rcases hb with rfl | ⟨y, rfl, hy⟩
    · exact h' rfl
    · have : partsB y false = false := h
      rw [hy] at this; cases this
theorem dec_read {l : Bs} {p : Sv} (h : Dec l p) : ∃ r, readV l = some r ∧ toSv r = p := by
  rcases h with ⟨h1, h2, h3, h4, h5, hM, rfl⟩ | ⟨h1, h3, h4, h5, hM, hm, rfl⟩ | ⟨h1, hM, hm, hz, hp, hb, rfl⟩
  · have e := readV_of (core := p.major) (pre := []) (plus := []) (fun c hc => ⟨(numB_np hM c hc).1, (numB_np hM c hc).2.1⟩) (.inl rfl) (.inl rfl)
    rw [numB_cut hM, readL_of (by simp) (by simp) (.inl rfl) (.inl rfl) (by simpa using hM)] at e
    refine ⟨_, by simpa using e, ?_⟩
    cases p; simp_all [toSv]
  · have hc2 : cutL (p.major ++ 46 :: p.minor) 46 = [p.major, p.minor] := by rw [cutL_app2, numB_cut hM, numB_cut hm]; rfl
    have e := readV_of (core := p.major ++ 46 :: p.minor) (pre := []) (plus := []) (by
      intro c hc
      rcases List.mem_append.1 hc with hc | hc
      · exact ⟨(numB_np hM c hc).1, (numB_np hM c hc).2.1⟩
      · rcases List.mem_cons.1 hc with rfl | hc
        · decide
        · exact ⟨(numB_np hm c hc).1, (numB_np hm c hc).2.1⟩) (.inl rfl) (.inl rfl)
    rw [hc2, readL_of (by simp) (by simp) (.inl rfl) (.inl rfl) (by simp [hM, hm])] at e
    refine ⟨_, by simpa using e, ?_⟩
    cases p; simp_all [toSv]
  · have hc2 : cutL (p.major ++ 46 :: (p.minor ++ 46 :: p.patch)) 46 = [p.major, p.minor, p.patch] := by rw [cutL_app2, cutL_app2, numB_cut hM, numB_cut hm, numB_cut hz]; rfl
    have e := readV_of (core := p.major ++ 46 :: (p.minor ++ 46 :: p.patch)) (pre := p.pre) (plus := p.build) (by
      intro c hc
      rcases List.mem_append.1 hc with hc | hc
      · exact ⟨(numB_np hM c hc).1, (numB_np hM c hc).2.1⟩
      · rcases List.mem_cons.1 hc with rfl | hc
        · decide
        · rcases List.mem_append.1 hc with hc | hc
          · exact ⟨(numB_np hm c hc).1, (numB_np hm c hc).2.1⟩
          · rcases List.mem_cons.1 hc with rfl | hc
            · decide
            · exact ⟨(numB_np hz c hc).1, (numB_np hz c hc).2.1⟩) hp hb
    rw [hc2, readL_of (by simp) (by simp) hp hb (by simp [hM, hm, hz])] at e
    refine ⟨_, by simpa using e, ?_⟩
    cases p; simp_all [toSv]
theorem read_parse (l : Bs) : parseV l = (readV l).map toSv := by
  cases h : readV l with
  | some r => rw [dec_parse (read_dec h)]; rfl
  | none =>
    cases h2 : parseV l with
    | none => rfl
    | some p =>
      obtain ⟨r, hr, _⟩ := dec_read (parseV_dec h2)
      rw [h] at hr; cases hr

def canonV (l : Bs) : Bs := match parseV l with | none => [] | some p => 118 :: (p.major ++ 46 :: (p.minor ++ 46 :: (p.patch ++ p.pre)))
theorem canonV_some {l : Bs} {p : Sv} (h : parseV l = some p) : canonV l = 118 :: (p.major ++ 46 :: (p.minor ++ 46 :: (p.patch ++ p.pre))) := by unfold canonV; rw [h]
theorem dec_canon {l : Bs} {p : Sv} (h : parseV l = some p) : (p.build ≠ [] → l.take (l.length - p.build.length) = canonV l) ∧ (p.build = [] → p.short ≠ [] → l ++ p.short = canonV l) ∧ (p.build = [] → p.short = [] → l = canonV l) := by
  rw [canonV_some h]
  rcases parseV_dec h with ⟨h1, h2, h3, h4, h5, hM, rfl⟩ | ⟨h1, h3, h4, h5, hM, hm, rfl⟩ | ⟨h1, hM, hm, hz, hp, hb, rfl⟩
  · refine ⟨fun e => absurd h5 e, fun _ _ => by rw [h1, h2, h3, h4]; simp, fun _ e => by rw [h1] at e; cases e⟩
  · refine ⟨fun e => absurd h5 e, fun _ _ => by rw [h1, h3, h4]; simp, fun _ e => by rw [h1] at e; cases e⟩
  · refine ⟨fun _ => ?_, fun _ e => absurd h1 e, fun e _ => by rw [e]; simp⟩
    have : 118 :: (p.major ++ 46 :: (p.minor ++ 46 :: (p.patch ++ (p.pre ++ p.build)))) = (118 :: (p.major ++ 46 :: (p.minor ++ 46 :: (p.patch ++ p.pre)))) ++ p.build := by simp
    rw [this, List.length_append, Nat.add_sub_cancel, List.take_left]
end Go.Proofs.Ytdinaphcglmhoaa
