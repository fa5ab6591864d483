/-
  The closure's order on a list in which no two of one path, with other texts ahead of the stroke, compare alike; impl.Sort at such a list.
-/
import Derived.Test.YtdinaphcglmhoaaClos
namespace Go.Proofs.Ytdinaphcglmhoaa
open Go.RowKit Go.Sort
set_option linter.unusedVariables false

def ordP (x y : PV) : Int := ordC x.1.data.toList x.2.data.toList y.1.data.toList y.2.data.toList
def Parted (l : List PV) : Prop := ∀ x ∈ l, ∀ y ∈ l, x.1.data.toList = y.1.data.toList → hdV x.2.data.toList ≠ hdV y.2.data.toList → verC (hdV x.2.data.toList) (hdV y.2.data.toList) ≠ 0
abbrev KP := Bs × (Option Ky × Bs)
def keyP (x : PV) : KP := (x.1.data.toList, ((readV (hdV x.2.data.toList)).map key, tlV x.2.data.toList))
def cK : KP → KP → Int := prodC txC (prodC (optC (-1) keyC) txC)
theorem cK_good : GoodC cK := prodC_good txC_good (prodC_good (optC_good (.inl rfl) keyC_good) txC_good)
theorem verC_self (v : Bs) : verC v v = 0 := (optC_good (.inl rfl) keyC_good).self _
theorem ordC_eq (p v q u : Bs) (h : p = q → hdV v ≠ hdV u → verC (hdV v) (hdV u) ≠ 0) : ordC p v q u = cK (p, ((readV (hdV v)).map key, tlV v)) (q, ((readV (hdV u)).map key, tlV u)) := by
  show (if p = q then (if hdV v = hdV u then txC (tlV v) (tlV u) else verC (hdV v) (hdV u)) else txC p q) = (if txC p q ≠ 0 then txC p q else (if verC (hdV v) (hdV u) ≠ 0 then verC (hdV v) (hdV u) else txC (tlV v) (tlV u)))
  by_cases hp : p = q
  · subst hp
    have h0 := txC_good.self p
    by_cases hv : hdV v = hdV u
    · have h1 : verC (hdV v) (hdV u) = 0 := by rw [hv]; exact verC_self _
      simp [h0, hv, verC_self]
    · have h1 := h rfl hv
      simp [h0, hv, h1]
  · have h0 : txC p q ≠ 0 := fun e => hp (txC_good.eq _ _ e)
    simp [hp, h0]
theorem ordP_eq {l : List PV} (h : Parted l) {x y : PV} (hx : x ∈ l) (hy : y ∈ l) : ordP x y = cK (keyP x) (keyP y) := ordC_eq _ _ _ _ (h x hx y hy)

def SortedP (l : List PV) : Prop := ∀ (i j : Nat) (hij : i < j) (hj : j < l.length), ¬ ordP l[j] (l[i]'(by omega)) < 0
def SrtE (l : List PV) (w : World) (e : Ending) (w' : World) : Prop := ∃ (l' : List PV) (g cap' : Nat), e = .returned (.slice (some ⟨g, 0, none⟩) l.length cap') ∧ l.Perm l' ∧ SortedP l' ∧ Hid (PvAt w' g 0 l') ∧ Hid (Below w.heap.size w w') ∧ w.heap.size ≤ g

theorem sort_sub (m : List PV) (hm : m ≠ []) (hP : Parted m) (hs : ∀ x ∈ m, x.1.size ≤ 2147483647 ∧ x.2.size ≤ 2147483647) (l : List {x // x ∈ m}) (b o cap : Nat) (w : World) (hin : PvAt w b o (l.map Subtype.val)) (hl : l.length ≤ 1073741824) :
    Calls Try.prog 24 #[.slice (some ⟨b, o, none⟩) l.length cap] w (SrtE (l.map Subtype.val) w) := by
  letI : Inhabited {x // x ∈ m} := ⟨⟨m.head hm, List.head_mem hm⟩⟩
  have hO : SWO (ltOf fun x y : {x // x ∈ m} => ordP x.1 y.1) := by
    have e : (fun x y : {x // x ∈ m} => ordP x.1 y.1) = fun x y => cK (keyP x.1) (keyP y.1) := funext fun x => funext fun y => ordP_eq hP x.2 y.2
    rw [e]
    exact cK_good.swo (fun x : {x // x ∈ m} => keyP x.1)
  have hcl : ClosTells (Subtype.val : {x // x ∈ m} → PV) (fun x y => ordP x.1 y.1) := fun x y W =>
    closGen x.1.1 y.1.1 x.1.2 y.1.2 W (hs _ x.2).1 (hs _ y.2).1 (hs _ x.2).2 (hs _ y.2).2
  refine (implSort Subtype.val (fun x y => ordP x.1 y.1) hO hcl l b o cap w hin hl).mono ?_
  rintro e w' ⟨l', g, cap', he, hp, hsrt, hr, hb, hg⟩
  refine ⟨l'.map Subtype.val, g, cap', by rw [List.length_map]; exact he, hp.map _, ?_, Lib.hid hr, Lib.hid hb, hg⟩
  intro i j hij hj
  have hj' : j < l'.length := by simpa using hj
  have hlen := hp.length_eq
  have h := hsrt i j (Nat.zero_le _) hij (by omega)
  rw [getElem!_pos _ j (by simpa using hj'), getElem!_pos _ i (by simp; omega)] at h
  unfold ltOf at h
  simpa using h

theorem sort_list (l : List PV) (hP : Parted l) (hs : ∀ x ∈ l, x.1.size ≤ 2147483647 ∧ x.2.size ≤ 2147483647) (b o cap : Nat) (w : World) (hin : PvAt w b o l) (hl : l.length ≤ 1073741824) :
    Calls Try.prog 24 #[.slice (some ⟨b, o, none⟩) l.length cap] w (SrtE l w) := by
  by_cases h : l = []
  · subst h
    have P1 : Parted [((⟨#[]⟩ : ByteArray), (⟨#[]⟩ : ByteArray))] := fun x hx y hy _ hne => by
      simp at hx hy; subst hx; subst hy; exact absurd rfl hne
    have := sort_sub [((⟨#[]⟩ : ByteArray), (⟨#[]⟩ : ByteArray))] (by simp) P1 (fun x hx => by simp at hx; subst hx; exact ⟨Nat.zero_le _, Nat.zero_le _⟩) [] b o cap w (by simpa using hin) (by simp)
    simpa using this
  · have := sort_sub l h hP hs l.attach b o cap w (by rw [List.attach_map_subtype_val]; exact hin) (by simpa using hl)
    rw [List.attach_map_subtype_val] at this
    simpa using this
end Go.Proofs.Ytdinaphcglmhoaa
