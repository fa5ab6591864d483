/-
  A map from versions to numbers that the call itself has made: counting up and down.
-/
import Derived.Test.YtdinaphcglmhoaaMapL
import Derived.Maps.RangeWalk
import Derived.Maps.Views
import Derived.WideKeyEntry
namespace Go.Proofs.Ytdinaphcglmhoaa
open Go.RowKit Go.ChangeShapes Go.WideShapes
open Go.ChangeMaps (setBlock)
open Go.MapKept
set_option linter.unusedVariables false
set_option linter.unusedSimpArgs false

theorem keyLaw : WideMaps.KeyLaw Try.prog 24 := deep_law_laid laidOutK (m := 2) (by omega) rowK (by kernel_rfl) wideK
theorem zeroI (w : World) : (zeroValue 3).run Try.prog w = .ok (.int .i64 0) w := by kernel_rfl

def klV (x : PV) : Lit := keyL x.1 x.2
def vvV (x : PV) : Value := .agg #[.string x.1, .string x.2]
def SzV (x : PV) : Prop := x.1.size ≤ maxLen ∧ x.2.size ≤ maxLen
theorem keyVV {x : PV} (h : SzV x) : keyOf Try.prog 24 (vvV x) = some (klV x) := keyV x.1 x.2 h.1 h.2
theorem isKeyV {x : PV} (h : SzV x) : WideAt.IsKeyLit (klV x) := lawK.key (keyVV h)

/-- block b of w is a map of at most n entries, in which each key has the number that f says -/
def MapN (w : World) (b n : Nat) (f : Lit → Int) : Prop := ∃ D : DataW Unit, w.ownsMap Try.prog 24 (plainElem Try.prog 3) b n D ∧ ∀ k, WideAt.IsKeyLit k → D.atKey k (.lit (.int .i64 0)) = .lit (.int .i64 (f k))

theorem MapN.made (w : World) : MapN (w.alloc (.map #[] 0)) w.heap.size 0 (fun _ => 0) :=
  ⟨.map [], World.ownsMap_made _ _ _ _, fun k _ => WideAt.atKey_none _ (by simp)⟩
theorem MapN.kept {w w' : World} {b n : Nat} {f : Lit → Int} {row : Option Nat} (h : MapN w b n f) (hg : w.grownBy w' row) (hne : some b ≠ row) : MapN w' b n f := by
  obtain ⟨D, h1, h2⟩ := h
  exact ⟨D, h1.kept hg hne, h2⟩
theorem MapN.drew {w : World} {b n : Nat} {f : Lit → Int} (h : MapN w b n f) : MapN w.drew b n f := h
theorem MapN.lt {w : World} {b n : Nat} {f : Lit → Int} (h : MapN w b n f) : b < w.heap.size := by
  obtain ⟨D, h1, _⟩ := h
  exact h1.lt

theorem setBlock_two (w : World) (b : Nat) (o o' : Obj) : setBlock (setBlock w b o) b o' = setBlock w b o' := by
  unfold setBlock; simp

/-- the entry's making is a store of the value that it tells -/
theorem entry_is_store {w : World} {b : Nat} {es : Array MapEntry} {clock : Nat} {key : Value} {kl : Lit} (hb : w.heap[b]? = some (.map es clock)) (F : WideElems.Fit (H := Unit) Try.prog 24 (plainElem Try.prog 3) es clock)
    (hkey : keyOf Try.prog 24 key = some kl) {v0 st : Value} {w1 : World} (h : (Instr.mapEntry 43 (.map (some b)) key).run Try.prog w = .ok (.tuple #[v0, st]) w1) :
    (Instr.mapUpdate 43 (.map (some b)) key v0).run Try.prog w = .ok () w1 ∧ (Instr.lookup 43 (.map (some b)) key false).run Try.prog w = .ok v0 w := by
  have ht := Try.underlying43
  rcases keyLaw.find w hkey es.toList F.keys with ⟨h1, h2⟩ | ⟨j, e0, h1, h2, h3⟩
  · simp [Instr.mapEntry, run_underlying ht, MapKept.run_getObj_map hb, keyLaw.check w _ hkey, h1, zeroI, MapKept.run_setObj_map _ hb, Result.andThen] at h
    obtain ⟨⟨rfl, rfl⟩, rfl⟩ := h
    constructor
    · simp [Instr.mapUpdate, run_underlying ht, MapKept.run_getObj_map hb, keyLaw.check w _ hkey, h1, MapKept.run_setObj_map _ hb, Result.andThen]
    · simp [Instr.lookup, run_underlying ht, MapKept.run_getObj_map hb, keyLaw.check w _ hkey, h1, zeroI, Result.andThen]
  · have hj : es[j]? = some e0 := by simpa using h2
    simp [Instr.mapEntry, run_underlying ht, MapKept.run_getObj_map hb, keyLaw.check w _ hkey, h1, hj, h3, keyLaw.stays w hkey, MapKept.run_setObj_map _ hb, Result.andThen] at h
    obtain ⟨⟨rfl, rfl⟩, rfl⟩ := h
    have hmod : es.modify j (fun e => { e with key := key }) = es.modify j (fun e => { e with key := key, val := e0.val }) := by
      apply Array.ext'
      rw [Array.toList_modify, Array.toList_modify, ChangeMaps.modify_eq_set _ _ _ _ h2, ChangeMaps.modify_eq_set _ _ _ _ h2]
    constructor
    · rw [hmod]
      simp [Instr.mapUpdate, run_underlying ht, MapKept.run_getObj_map hb, keyLaw.check w _ hkey, h1, hj, h3, keyLaw.stays w hkey, MapKept.run_setObj_map _ hb, Result.andThen]
    · simp [Instr.lookup, run_underlying ht, MapKept.run_getObj_map hb, keyLaw.check w _ hkey, h1, Result.andThen]

/-- 'm[x] op= ..': the look-up ahead of the entry and behind it, the entry, the store -/
theorem MapN.bump {w : World} {b n : Nat} {f : Lit → Int} (h : MapN w b n f) (hn : n + 1 < maxLen) {x : PV} (hx : SzV x) (c : Int) (hc : (Lit.int .i64 c).wf = true) :
    ∃ (st : Value) (w1 w2 : World), (Instr.mapEntry 43 (.map (some b)) (vvV x)).run Try.prog w = .ok (.tuple #[.int .i64 (f (klV x)), st]) w1 ∧
      (Instr.lookup 43 (.map (some b)) (vvV x) false).run Try.prog w = .ok (.int .i64 (f (klV x))) w ∧
      (Instr.lookup 43 (.map (some b)) (vvV x) false).run Try.prog w1 = .ok (.int .i64 (f (klV x))) w1 ∧
      (Instr.entryStore 43 (.map (some b)) st (.int .i64 c)).run Try.prog w1 = .ok () w2 ∧
      MapN w2 b (n + 1) (fun k => if k.sameKey (klV x) then c else f k) ∧ w.grownBy w2 (some b) := by
  have ht := Try.underlying43
  have hkey := keyVV hx
  have hik := isKeyV hx
  obtain ⟨D, hown, hf⟩ := h
  obtain ⟨c0, hl0, hat0, hwf0⟩ := hown.lookup_int lawK ht Try.underlying3 (zeroI w) hkey
  obtain rfl : c0 = f (klV x) := by
    have := hat0.symm.trans (hf _ hik); simpa using this
  obtain ⟨es, clock, hb, F, hs, hD⟩ := id hown
  obtain ⟨v0, st, es1, clock1, he, -, hst⟩ := WideElems.entry_then_store keyLaw ht (fun u => zeroI u) hb F hkey
  obtain ⟨hu, hl⟩ := entry_is_store hb F hkey he
  obtain rfl : v0 = .int .i64 (f (klV x)) := by
    rw [hl0] at hl; simpa using hl.symm
  obtain ⟨w1', hu', hown1, hg1⟩ := hown.update lawK ht (Nat.lt_of_succ_lt hn) hkey (plainElem_int Try.underlying3 hwf0)
  obtain rfl : w1' = setBlock w b (.map es1 clock1) := by
    rw [hu] at hu'; simpa using hu'.symm
  obtain ⟨c1, hl1, hat1, -⟩ := hown1.lookup_int lawK ht Try.underlying3 (zeroI _) hkey
  have hm : Maps.IsMap D := by rw [hD]; exact ⟨_, rfl⟩
  obtain rfl : c1 = f (klV x) := by
    rw [Maps.atKey_put_same hm hik] at hat1; simpa using hat1.symm
  have hb1 : (setBlock w b (.map es1 clock1)).heap[b]? = some (.map es1 clock1) := ChangeMaps.heap_setBlock_same hb _
  obtain ⟨es', clock', hrun, hup⟩ := hst _ (.int .i64 c) hb1
  rw [setBlock_two] at hrun
  obtain ⟨w2', hu2, hown2, hg2⟩ := hown.update lawK ht (Nat.lt_of_succ_lt hn) hkey (plainElem_int Try.underlying3 hc)
  obtain rfl : w2' = setBlock w b (.map es' clock') := by
    rw [hup] at hu2; simpa using hu2.symm
  refine ⟨goInt st, _, _, he, hl0, hl1, hrun, ⟨_, hown2, fun k hk => ?_⟩, hg2⟩
  by_cases hkx : k = klV x
  · subst hkx
    rw [Maps.atKey_put_same hm hik]; simp only [WideAt.sameKey_self hik, if_true]
  · rw [Maps.atKey_put_other hkx, hf k hk]
    have : k.sameKey (klV x) = false := Maps.sameKey_ne hkx
    simp [this]

/-! ### counts -/
def cntK (L : List Lit) (k : Lit) : Int := (L.countP fun y => y.sameKey k)
def difK (A B : List Lit) (k : Lit) : Int := cntK A k - cntK B k
theorem cntK_snoc (L : List Lit) (x k : Lit) : cntK (L ++ [x]) k = cntK L k + if x.sameKey k then 1 else 0 := by
  unfold cntK
  rw [List.countP_append]
  by_cases h : x.sameKey k = true <;> simp [h]
theorem cntK_le (L : List Lit) (k : Lit) : 0 ≤ cntK L k ∧ cntK L k ≤ L.length := by
  unfold cntK
  exact ⟨by omega, by have := List.countP_le_length (p := fun y : Lit => y.sameKey k) (l := L); omega⟩
theorem cntK_perm {A B : List Lit} (h : A.Perm B) (k : Lit) : cntK A k = cntK B k := by
  unfold cntK; rw [h.countP_eq]
theorem difK_perm {A B : List Lit} (h : A.Perm B) (k : Lit) : difK A B k = 0 := by
  unfold difK; rw [cntK_perm h]; omega
theorem sameKey_swap {a b : Lit} (ha : WideAt.IsKeyLit a) (hb : WideAt.IsKeyLit b) : a.sameKey b = b.sameKey a := by
  by_cases h : a = b
  · subst h; rfl
  · rw [Maps.sameKey_ne h, Maps.sameKey_ne (Ne.symm h)]

def CntN (w : World) (b n : Nat) (A B : List Lit) : Prop := MapN w b n (difK A B)
theorem MapN.ext {w : World} {b n : Nat} {f g : Lit → Int} (h : MapN w b n f) (e : ∀ k, WideAt.IsKeyLit k → f k = g k) : MapN w b n g := by
  obtain ⟨D, h1, h2⟩ := h
  exact ⟨D, h1, fun k hk => by rw [h2 k hk, e k hk]⟩
/-- what a round of counting needs: one up -/
def UpAt (w : World) (b n : Nat) (A B : List Lit) (x : PV) (c c' : Int) (A' B' : List Lit) (st : Value) (w1 w2 : World) : Prop :=
  (Instr.mapEntry 43 (.map (some b)) (vvV x)).run Try.prog w = .ok (.tuple #[.int .i64 c, st]) w1 ∧
  (Instr.lookup 43 (.map (some b)) (vvV x) false).run Try.prog w = .ok (.int .i64 c) w ∧
  (Instr.lookup 43 (.map (some b)) (vvV x) false).run Try.prog w1 = .ok (.int .i64 c) w1 ∧
  (Instr.entryStore 43 (.map (some b)) st (.int .i64 c')).run Try.prog w1 = .ok () w2 ∧
  CntN w2 b (n + 1) A' B' ∧ w.grownBy w2 (some b)
theorem wf_small {c : Int} (h : -1000 ≤ c ∧ c ≤ 1000) : (Lit.int .i64 c).wf = true := by
  have h1 : (-9223372036854775808 : Int) ≤ c ∧ c ≤ 9223372036854775807 := by omega
  simp [Lit.wf, IntKind.min, IntKind.max, IntKind.signed, IntKind.bits]; omega
theorem CntN.up {w : World} {b n : Nat} {A B : List Lit} (h : CntN w b n A B) (hn : n + 1 < maxLen) {x : PV} (hx : SzV x) (hA : A.length ≤ 100) (hB : B.length ≤ 100) :
    ∃ c st w1 w2, -100 ≤ c ∧ c ≤ 100 ∧ UpAt w b n A B x c (c + 1) (A ++ [klV x]) B st w1 w2 := by
  have a := cntK_le A (klV x)
  have b := cntK_le B (klV x)
  obtain ⟨st, w1, w2, r1, r2, r3, r4, r5, r6⟩ := MapN.bump h hn hx (difK A B (klV x) + 1) (wf_small (by unfold difK; omega))
  refine ⟨_, st, w1, w2, ?_, ?_, r1, r2, r3, r4, MapN.ext r5 (fun k hk => ?_), r6⟩
  · unfold difK; omega
  · unfold difK; omega
  · unfold difK
    rw [cntK_snoc, sameKey_swap (isKeyV hx) hk]
    by_cases e : k = klV x
    · subst e; rw [WideAt.sameKey_self hk]; simp; omega
    · rw [Maps.sameKey_ne e]; simp
theorem CntN.down {w : World} {b n : Nat} {A B : List Lit} (h : CntN w b n A B) (hn : n + 1 < maxLen) {x : PV} (hx : SzV x) (hA : A.length ≤ 100) (hB : B.length ≤ 100) :
    ∃ c st w1 w2, -100 ≤ c ∧ c ≤ 100 ∧ UpAt w b n A B x c (c - 1) A (B ++ [klV x]) st w1 w2 := by
  have a := cntK_le A (klV x)
  have b := cntK_le B (klV x)
  obtain ⟨st, w1, w2, r1, r2, r3, r4, r5, r6⟩ := MapN.bump h hn hx (difK A B (klV x) - 1) (wf_small (by unfold difK; omega))
  refine ⟨_, st, w1, w2, ?_, ?_, r1, r2, r3, r4, MapN.ext r5 (fun k hk => ?_), r6⟩
  · unfold difK; omega
  · unfold difK; omega
  · unfold difK
    rw [cntK_snoc, sameKey_swap (isKeyV hx) hk]
    by_cases e : k = klV x
    · subst e; rw [WideAt.sameKey_self hk]; simp; omega
    · rw [Maps.sameKey_ne e]; simp

/-- all counts are nought: what the range tells is nought -/
theorem CntN.zero {w : World} {b n : Nat} {A B : List Lit} (h : CntN w b n A B) (hp : A.Perm B) : ∃ D : DataW Unit, w.ownsMap Try.prog 24 (plainElem Try.prog 3) b n D ∧ ∀ k, WideAt.IsKeyLit k → D.atKey k (.lit (.int .i64 0)) = .lit (.int .i64 0) := by
  obtain ⟨D, h1, h2⟩ := h
  exact ⟨D, h1, fun k hk => by rw [h2 k hk, difK_perm hp]⟩
end Go.Proofs.Ytdinaphcglmhoaa
