/-
  Orders: good comparisons, of texts, of lists, of versions. No program in sight.
-/
import Derived.Test.YtdinaphcglmhoaaSortC
import Derived.Test.YtdinaphcglmhoaaCanonP
namespace Go.Proofs.Ytdinaphcglmhoaa
open Go.RowKit Go.Sort
set_option linter.unusedVariables false

/-- -1, 0 or 1; nought at equals alone; turned about; transitive -/
structure GoodC {α : Type} (c : α → α → Int) : Prop where
  tri : ∀ x y, c x y = -1 ∨ c x y = 0 ∨ c x y = 1
  self : ∀ x, c x x = 0
  eq : ∀ x y, c x y = 0 → x = y
  flip : ∀ x y, c y x = - c x y
  tr : ∀ x y z, c x y = -1 → c y z = -1 → c x z = -1

theorem GoodC.swo {α β : Type} {c : β → β → Int} (h : GoodC c) (k : α → β) : SWO (ltOf fun x y => c (k x) (k y)) where
  irrefl x := by unfold ltOf; simp only [h.self]; rfl
  trans x y z h1 h2 := by
    unfold ltOf at *
    have a := h.tri (k x) (k y)
    have b := h.tri (k y) (k z)
    simp only [decide_eq_true_eq] at *
    rw [h.tr (k x) (k y) (k z) (by omega) (by omega)]; omega
  ntrans x y z h1 h2 := by
    unfold ltOf at *
    have a := h.tri (k x) (k y)
    have b := h.tri (k y) (k z)
    have d := h.tri (k x) (k z)
    simp only [decide_eq_false_iff_not] at *
    intro hc
    have hxz : c (k x) (k z) = -1 := by omega
    rcases a with a | a | a
    · omega
    · rw [h.eq _ _ a] at hxz; omega
    · have f := h.flip (k x) (k y)
      have := h.tr _ _ _ (show c (k y) (k x) = -1 by omega) hxz
      omega

def prodC {α β : Type} (c : α → α → Int) (d : β → β → Int) (x y : α × β) : Int := if c x.1 y.1 ≠ 0 then c x.1 y.1 else d x.2 y.2
theorem prodC_good {α β : Type} {c : α → α → Int} {d : β → β → Int} (hc : GoodC c) (hd : GoodC d) : GoodC (prodC c d) where
  tri x y := by unfold prodC; split; exact hc.tri _ _; exact hd.tri _ _
  self x := by unfold prodC; rw [hc.self, hd.self]; rfl
  eq x y h := by
    unfold prodC at h
    split at h
    · contradiction
    · rename_i h0
      exact Prod.ext (hc.eq _ _ (by simpa using h0)) (hd.eq _ _ h)
  flip x y := by
    unfold prodC
    rw [hc.flip x.1 y.1, hd.flip x.2 y.2]
    by_cases h : c x.1 y.1 = 0 <;> simp [h]
  tr x y z h1 h2 := by
    unfold prodC at *
    by_cases a : c x.1 y.1 = 0
    · rw [if_neg (by simpa using a)] at h1
      rw [hc.eq _ _ a]
      by_cases b : c y.1 z.1 = 0
      · rw [if_neg (by simpa using b)] at h2 ⊢
        exact hd.tr _ _ _ h1 h2
      · rw [if_pos b] at h2 ⊢; exact h2
    · rw [if_pos a] at h1
      by_cases b : c y.1 z.1 = 0
      · rw [← hc.eq _ _ b, if_pos a]; exact h1
      · rw [if_pos b] at h2
        have := hc.tr _ _ _ h1 h2
        rw [if_pos (by omega)]; exact this

def lexC {α : Type} (c : α → α → Int) : List α → List α → Int
  | [], [] => 0
  | [], _ :: _ => -1
  | _ :: _, [] => 1
  | a :: x, b :: y => if c a b ≠ 0 then c a b else lexC c x y
theorem lexC_tri {α : Type} {c : α → α → Int} (hc : GoodC c) : ∀ x y, lexC c x y = -1 ∨ lexC c x y = 0 ∨ lexC c x y = 1
  | [], [] => by simp [lexC]
  | [], _ :: _ => by simp [lexC]
  | _ :: _, [] => by simp [lexC]
  | a :: x, b :: y => by
    unfold lexC; split
    · exact hc.tri _ _
    · exact lexC_tri hc x y
theorem lexC_self {α : Type} {c : α → α → Int} (hc : GoodC c) : ∀ x, lexC c x x = 0
  | [] => rfl
  | a :: x => by unfold lexC; rw [hc.self, lexC_self hc x]; rfl
theorem lexC_eq {α : Type} {c : α → α → Int} (hc : GoodC c) : ∀ x y, lexC c x y = 0 → x = y
  | [], [], _ => rfl
  | [], _ :: _, h => by simp [lexC] at h
  | _ :: _, [], h => by simp [lexC] at h
  | a :: x, b :: y, h => by
    unfold lexC at h
    split at h
    · contradiction
    · rename_i h0
      rw [hc.eq a b (by simpa using h0), lexC_eq hc x y h]
theorem lexC_flip {α : Type} {c : α → α → Int} (hc : GoodC c) : ∀ x y, lexC c y x = - lexC c x y
  | [], [] => rfl
  | [], _ :: _ => rfl
  | _ :: _, [] => rfl
  | a :: x, b :: y => by
    unfold lexC
    rw [hc.flip a b, lexC_flip hc x y]
    by_cases h : c a b = 0 <;> simp [h]
theorem lexC_tr {α : Type} {c : α → α → Int} (hc : GoodC c) : ∀ x y z, lexC c x y = -1 → lexC c y z = -1 → lexC c x z = -1
  | [], [], _, h, _ => by simp [lexC] at h
  | [], _ :: _, [], _, h => by simp [lexC] at h
  | [], _ :: _, _ :: _, _, _ => rfl
  | _ :: _, [], _, h, _ => by simp [lexC] at h
  | _ :: _, _ :: _, [], _, h => by simp [lexC] at h
  | a :: x, b :: y, d :: z, h1, h2 => by
    unfold lexC at *
    by_cases ha : c a b = 0
    · rw [if_neg (by simpa using ha)] at h1
      rw [hc.eq _ _ ha]
      by_cases hb : c b d = 0
      · rw [if_neg (by simpa using hb)] at h2 ⊢
        exact lexC_tr hc x y z h1 h2
      · rw [if_pos hb] at h2 ⊢; exact h2
    · rw [if_pos ha] at h1
      by_cases hb : c b d = 0
      · rw [← hc.eq _ _ hb, if_pos ha]; exact h1
      · rw [if_pos hb] at h2
        have := hc.tr _ _ _ h1 h2
        rw [if_pos (by omega)]; exact this
theorem lexC_good {α : Type} {c : α → α → Int} (hc : GoodC c) : GoodC (lexC c) := ⟨lexC_tri hc, lexC_self hc, lexC_eq hc, lexC_flip hc, lexC_tr hc⟩

/-- none is least (s = -1) or greatest (s = 1) -/
def optC {α : Type} (s : Int) (c : α → α → Int) : Option α → Option α → Int
  | none, none => 0
  | none, some _ => s
  | some _, none => -s
  | some x, some y => c x y
theorem optC_good {α : Type} {s : Int} (hs : s = -1 ∨ s = 1) {c : α → α → Int} (hc : GoodC c) : GoodC (optC s c) where
  tri x y := by
    cases x <;> cases y
    · exact .inr (.inl rfl)
    · show s = -1 ∨ s = 0 ∨ s = 1; omega
    · show -s = -1 ∨ -s = 0 ∨ -s = 1; omega
    · exact hc.tri _ _
  self x := by cases x <;> simp only [optC]; exact hc.self _
  eq x y h := by
    cases x <;> cases y <;> simp only [optC] at h
    · rfl
    · omega
    · omega
    · rw [hc.eq _ _ h]
  flip x y := by
    cases x <;> cases y <;> simp only [optC]
    · rfl
    · omega
    · exact hc.flip _ _
  tr x y z h1 h2 := by
    cases x <;> cases y <;> cases z <;> simp only [optC] at h1 h2 ⊢ <;> first | omega | exact hc.tr _ _ _ h1 h2

theorem lt_asym : ∀ (x y : Bs), Op.bytesLess x y = true → Op.bytesLess y x = false
  | [], [], h => by simp [Op.bytesLess] at h
  | [], _ :: _, _ => by simp [Op.bytesLess]
  | _ :: _, [], h => by simp [Op.bytesLess] at h
  | a :: x, b :: y, h => by
    simp only [Op.bytesLess, Bool.or_eq_true, decide_eq_true_eq, Bool.and_eq_true, beq_iff_eq] at h
    simp only [Op.bytesLess, Bool.or_eq_false_iff, decide_eq_false_iff_not, Bool.and_eq_false_iff, beq_eq_false_iff_ne]
    rcases h with h | ⟨rfl, h⟩
    · exact ⟨fun k => by have h1 := UInt8.lt_iff_toNat_lt.1 h; have h2 := UInt8.lt_iff_toNat_lt.1 k; omega, .inl (fun e => by subst e; exact absurd h (by have := UInt8.lt_irrefl b; exact this))⟩
    · exact ⟨by exact UInt8.lt_irrefl a, .inr (lt_asym x y h)⟩
theorem lt_self (x : Bs) : Op.bytesLess x x = false := by
  cases h : Op.bytesLess x x with
  | false => rfl
  | true => have := lt_asym x x h; rw [h] at this; cases this

theorem less_trans : ∀ (x y z : Bs), Op.bytesLess x y = true → Op.bytesLess y z = true → Op.bytesLess x z = true
  | _, [], _, h, _ => by simp [Op.bytesLess] at h
  | _, _ :: _, [], _, h => by simp [Op.bytesLess] at h
  | [], _ :: _, _ :: _, _, _ => rfl
  | a :: x, b :: y, d :: z, h1, h2 => by
    simp only [Op.bytesLess, Bool.or_eq_true, decide_eq_true_eq, Bool.and_eq_true, beq_iff_eq] at *
    rcases h1 with h1 | ⟨rfl, h1⟩
    · rcases h2 with h2 | ⟨rfl, h2⟩
      · exact .inl (by have a1 := UInt8.lt_iff_toNat_lt.1 h1; have a2 := UInt8.lt_iff_toNat_lt.1 h2; exact UInt8.lt_iff_toNat_lt.2 (by omega))
      · exact .inl h1
    · rcases h2 with h2 | ⟨rfl, h2⟩
      · exact .inl h2
      · exact .inr ⟨rfl, less_trans x y z h1 h2⟩
theorem less_total : ∀ (x y : Bs), Op.bytesLess x y = true ∨ x = y ∨ Op.bytesLess y x = true
  | [], [] => .inr (.inl rfl)
  | [], _ :: _ => .inl (by simp [Op.bytesLess])
  | _ :: _, [] => .inr (.inr (by simp [Op.bytesLess]))
  | a :: x, b :: y => by
    simp only [Op.bytesLess, Bool.or_eq_true, decide_eq_true_eq, Bool.and_eq_true, beq_iff_eq, List.cons.injEq]
    rcases Nat.lt_trichotomy a.toNat b.toNat with h | h | h
    · exact .inl (.inl (UInt8.lt_iff_toNat_lt.2 h))
    · have e := UInt8.toNat_inj.1 h
      subst e
      rcases less_total x y with h | h | h
      · exact .inl (.inr ⟨rfl, h⟩)
      · exact .inr (.inl ⟨rfl, h⟩)
      · exact .inr (.inr (.inr ⟨rfl, h⟩))
    · exact .inr (.inr (.inl (UInt8.lt_iff_toNat_lt.2 h)))

/-- texts as cmp.Compare and strings.Compare have them -/
def txC (x y : Bs) : Int := if Op.bytesLess x y = true then -1 else if x = y then 0 else 1
theorem txC_good : GoodC txC where
  tri x y := by unfold txC; split; · exact .inl rfl
                split; · exact .inr (.inl rfl)
                exact .inr (.inr rfl)
  self x := by unfold txC; rw [lt_self]; simp
  eq x y h := by
    unfold txC at h
    split at h
    · omega
    · split at h
      · assumption
      · omega
  flip x y := by
    unfold txC
    rcases less_total x y with h | h | h
    · have h2 := lt_asym _ _ h
      have h3 : y ≠ x := fun e => by rw [e] at h; rw [lt_self] at h; cases h
      simp [h, h2, h3]
    · subst h; simp [lt_self]
    · have h2 := lt_asym _ _ h
      have h3 : x ≠ y := fun e => by rw [e] at h; rw [lt_self] at h; cases h
      simp [h, h2, h3]
  tr x y z h1 h2 := by
    have a : ∀ u v, txC u v = -1 → Op.bytesLess u v = true := fun u v h => by
      unfold txC at h
      split at h
      · assumption
      · split at h <;> omega
    unfold txC
    rw [if_pos (less_trans x y z (a _ _ h1) (a _ _ h2))]
theorem cmpS_eq (x y : ByteArray) : cmpS x y = txC x.data.toList y.data.toList := by
  unfold cmpS txC
  rw [Lib.toList_data, Lib.toList_data]
  simp

/-- numbers as texts: the shorter is less -/
def lenC (x y : Bs) : Int := if x.length < y.length then -1 else if x.length = y.length then 0 else 1
def intC (x y : Bs) : Int := if x.length < y.length then -1 else if y.length < x.length then 1 else txC x y
theorem intC_good : GoodC intC where
  tri x y := by
    unfold intC; split
    · exact .inl rfl
    · split
      · exact .inr (.inr rfl)
      · exact txC_good.tri _ _
  self x := by unfold intC; simp [txC_good.self]
  eq x y h := by
    unfold intC at h
    split at h
    · omega
    · split at h
      · omega
      · exact txC_good.eq _ _ h
  flip x y := by
    unfold intC
    rcases Nat.lt_trichotomy x.length y.length with h | h | h
    · simp [h, show ¬ y.length < x.length by omega]
    · simp [h]; exact txC_good.flip _ _
    · simp [h, show ¬ x.length < y.length by omega]
  tr x y z h1 h2 := by
    have a : ∀ u v : Bs, intC u v = -1 → u.length < v.length ∨ (u.length = v.length ∧ txC u v = -1) := fun u v h => by
      unfold intC at h
      split at h
      · exact .inl ‹_›
      · split at h
        · omega
        · exact .inr ⟨by omega, h⟩
    unfold intC
    rcases a _ _ h1 with h1 | ⟨e1, h1⟩ <;> rcases a _ _ h2 with h2 | ⟨e2, h2⟩
    · rw [if_pos (by omega)]
    · rw [if_pos (by omega)]
    · rw [if_pos (by omega)]
    · rw [if_neg (by omega), if_neg (by omega)]
      exact txC_good.tr _ _ _ h1 h2

/-- pieces of what stands behind - -/
def idC (x y : Bs) : Int := if x.all isD = true then (if y.all isD = true then intC x y else -1) else (if y.all isD = true then 1 else txC x y)
theorem idC_good : GoodC idC where
  tri x y := by
    unfold idC; split <;> split
    · exact intC_good.tri _ _
    · exact .inl rfl
    · exact .inr (.inr rfl)
    · exact txC_good.tri _ _
  self x := by
    unfold idC; split
    · exact intC_good.self _
    · exact txC_good.self _
  eq x y h := by
    unfold idC at h
    split at h <;> split at h
    · exact intC_good.eq _ _ h
    · omega
    · omega
    · exact txC_good.eq _ _ h
  flip x y := by
    unfold idC
    split <;> split
    · exact intC_good.flip _ _
    · rfl
    · rfl
    · exact txC_good.flip _ _
  tr x y z h1 h2 := by
    unfold idC at *
    split at h1 <;> split at h1 <;> split at h2 <;> (try split at h2) <;> split <;> first | omega | exact intC_good.tr _ _ _ h1 h2 | exact txC_good.tr _ _ _ h1 h2 | (exfalso; simp_all; done) | simp_all

def pk (x : Bs) : Option (List Bs) := if x = [] then none else some (cutL (x.drop 1) 46)
abbrev Ky := Bs × Bs × Bs × Option (List Bs)
def key (r : Rv) : Ky := (r.n0, r.n1, r.n2, pk r.pre)
def preC : Option (List Bs) → Option (List Bs) → Int := optC 1 (lexC idC)
def keyC : Ky → Ky → Int := prodC intC (prodC intC (prodC intC preC))
theorem preC_good : GoodC preC := optC_good (.inr rfl) (lexC_good idC_good)
theorem keyC_good : GoodC keyC := prodC_good intC_good (prodC_good intC_good (prodC_good intC_good preC_good))
/-- versions: what is none is least -/
def verC (v w : Bs) : Int := optC (-1) keyC ((readV v).map key) ((readV w).map key)
end Go.Proofs.Ytdinaphcglmhoaa
