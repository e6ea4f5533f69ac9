import Derived.Test.Qxb6613416aRows
import Derived.WalkKit
import Derived.WalkSpells
import Derived.RegionTactic
import Derived.Deep.QuietTactic
import Derived.BigQuiet
import Derived.RowKit3
import Derived.WalkSmall
import Derived.Maps.OwnSet
import Derived.Deep.RegionHeld3
import Derived.RangeFuncBox
namespace Go.Proofs.Qxb6613416a
open Go.RowKit Go.Maps

theorem hid {p : Prop} (h : p) : Hid p := h

/-- An entry: a key, and a text that is a number or a string. -/
structure Ent where
  key : ByteArray
  text : ByteArray
  num : Bool

def noEnt : Ent := ⟨ByteArray.empty, ByteArray.empty, false⟩

/-- Has the entry this key? -/
def hit (k : ByteArray) (e : Ent) : Bool := e.key.toList == k.toList
def findE (L : List Ent) (k : ByteArray) : Option Nat := L.findIdx? (hit k)
def putE (L : List Ent) (e : Ent) : List Ent := match findE L e.key with
  | some i => L.set i e
  | none => L ++ [e]
/-- No key twice. -/
def Dist (L : List Ent) : Prop := ∀ (i j : Nat) (hi : i < L.length) (hj : j < L.length), i < j → hit (L[j]).key (L[i]) = false

theorem toList_inj {a b : ByteArray} (h : a.toList = b.toList) : a = b := by
  rw [ByteArray.toList_eq, ByteArray.toList_eq] at h
  cases a; cases b; simp at h; rw [h]
theorem hit_iff {k : ByteArray} {e : Ent} : hit k e = true ↔ e.key = k := by
  unfold hit
  rw [beq_iff_eq]
  exact ⟨toList_inj, fun h => by rw [h]⟩
theorem hit_false {k : ByteArray} {e : Ent} : hit k e = false ↔ e.key ≠ k := by
  rw [← Bool.not_eq_true, hit_iff]

theorem findE_some {L : List Ent} {k : ByteArray} {i : Nat} (h : findE L k = some i) : ∃ hi : i < L.length, (L[i]).key = k ∧ ∀ j (hj : j < i), hit k (L[j]'(by omega)) = false := by
  unfold findE at h
  obtain ⟨hi, h1, h2⟩ := List.findIdx?_eq_some_iff_getElem.1 h
  exact ⟨hi, hit_iff.1 h1, fun j hj => by simpa using h2 j hj⟩
theorem findE_none {L : List Ent} {k : ByteArray} : findE L k = none ↔ ∀ e ∈ L, hit k e = false := by
  unfold findE
  exact List.findIdx?_eq_none_iff
theorem findE_mk {L : List Ent} {k : ByteArray} {i : Nat} (hi : i < L.length) (h1 : hit k L[i] = true) (h2 : ∀ j (hj : j < i), hit k (L[j]'(by omega)) = false) : findE L k = some i := by
  unfold findE
  exact List.findIdx?_eq_some_iff_getElem.2 ⟨hi, h1, fun j hj => by simpa using h2 j hj⟩

theorem findE_snoc (L : List Ent) (e : Ent) (k : ByteArray) (h : findE L e.key = none) : findE (L ++ [e]) k = if e.key = k then some L.length else findE L k := by
  by_cases hk : e.key = k
  · rw [if_pos hk]
    subst hk
    refine findE_mk (by simp) (by simp [hit]) (fun j hj => ?_)
    rw [List.getElem_append_left hj]
    exact findE_none.1 h _ (List.getElem_mem _)
  · rw [if_neg hk]
    unfold findE
    rw [List.findIdx?_append]
    have : hit k e = false := hit_false.2 hk
    simp [List.findIdx?_cons, this]

theorem findE_set {L : List Ent} {e : Ent} {i : Nat} (h : findE L e.key = some i) (k : ByteArray) : findE (L.set i e) k = findE L k := by
  obtain ⟨hi, hk, _⟩ := findE_some h
  unfold findE
  have : ∀ (M : List Ent), M.map (hit k) = L.map (hit k) → M.findIdx? (hit k) = L.findIdx? (hit k) := by
    intro M hM
    have e1 := List.findIdx?_map (l := M) (p := id) (f := hit k)
    have e2 := List.findIdx?_map (l := L) (p := id) (f := hit k)
    rw [hM] at e1
    exact e1.symm.trans e2
  apply this
  rw [List.map_set]
  apply List.ext_getElem
  · simp
  · intro j h1 h2
    rw [List.getElem_set]
    split
    · rename_i hij
      subst hij
      simp [hit, hk]
    · rfl

theorem Dist.nil : Dist [] := fun _ _ hi _ _ => absurd hi (Nat.not_lt_zero _)
theorem Dist.snoc {L : List Ent} (h : Dist L) {e : Ent} (he : findE L e.key = none) : Dist (L ++ [e]) := by
  intro i j hi hj hij
  simp only [List.length_append, List.length_cons, List.length_nil] at hi hj
  rw [List.getElem_append_left (show i < L.length by omega)]
  by_cases hjl : j < L.length
  · rw [List.getElem_append_left hjl]; exact h i j (by omega) hjl hij
  · obtain rfl : j = L.length := by omega
    simp only [List.getElem_append_right (Nat.le_refl _), Nat.sub_self, List.getElem_cons_zero]
    exact findE_none.1 he _ (List.getElem_mem _)
theorem Dist.set {L : List Ent} (h : Dist L) {e : Ent} {i : Nat} (he : findE L e.key = some i) : Dist (L.set i e) := by
  obtain ⟨hi, hk, _⟩ := findE_some he
  have hkey : ∀ (j : Nat) (hj : j < L.length), ((L.set i e)[j]'(by simpa using hj)).key = (L[j]).key := by
    intro j hj
    rw [List.getElem_set]
    split
    · rename_i hij; subst hij; exact hk.symm
    · rfl
  intro a b ha hb hab
  have ha' : a < L.length := by simpa using ha
  have hb' : b < L.length := by simpa using hb
  have := h a b ha' hb' hab
  rw [hit_false] at this ⊢
  rw [hkey a ha', hkey b hb']
  exact this
theorem Dist.put {L : List Ent} (h : Dist L) (e : Ent) : Dist (putE L e) := by
  unfold putE
  split
  · rename_i i hi; exact h.set hi
  · rename_i hn; exact h.snoc hn
theorem Dist.take {L : List Ent} (h : Dist L) (j : Nat) (hj : j < L.length) : findE (L.take j) (L[j]).key = none := by
  rw [findE_none]
  intro e he
  obtain ⟨i, hi, rfl⟩ := List.getElem_of_mem he
  rw [List.getElem_take]
  have hi' : i < j := by simp at hi; omega
  exact h i j (by omega) hj hi'
theorem putE_length_le (L : List Ent) (e : Ent) : (putE L e).length ≤ L.length + 1 := by
  unfold putE
  split <;> simp

/-! ### The index map -/
def keyL (k : ByteArray) : Lit := .string k.data.toList
theorem keyL_key (k : ByteArray) : WideAt.IsKeyLit (keyL k) := trivial
theorem keyL_ne {a b : ByteArray} (h : a ≠ b) : keyL a ≠ keyL b := by
  intro he
  apply h
  unfold keyL at he
  have : a.data.toList = b.data.toList := by simpa using he
  apply toList_inj
  rw [ByteArray.toList_eq, ByteArray.toList_eq, this]

/-- The map tells each key's place. -/
def IdxIs (D : DataW Unit) (L : List Ent) : Prop :=
  ∀ k : ByteArray, Maps.has D (keyL k) = (findE L k).isSome ∧ D.atKey (keyL k) (.lit (.int .i64 0)) = .lit (.int .i64 (((findE L k).getD 0 : Nat) : Int))

theorem IdxIs.nil : IdxIs (.map []) [] := fun k => ⟨by simp [Maps.has, findE], by simp [DataW.atKey, findE]⟩
theorem IdxIs.snoc {D : DataW Unit} {L : List Ent} (h : IdxIs D L) (hM : IsMap D) {e : Ent} (he : findE L e.key = none) : IdxIs (D.put (keyL e.key) (.lit (.int .i64 ((L.length : Nat) : Int)))) (L ++ [e]) := by
  intro k
  rw [findE_snoc L e k he]
  by_cases hk : e.key = k
  · subst hk
    rw [has_put_same hM (keyL_key _), atKey_put_same hM (keyL_key _)]
    simp
  · rw [has_put_other (keyL_ne (Ne.symm hk)), atKey_put_other (keyL_ne (Ne.symm hk)), if_neg hk]
    exact h k
theorem IdxIs.set {D : DataW Unit} {L : List Ent} (h : IdxIs D L) {e : Ent} {i : Nat} (he : findE L e.key = some i) : IdxIs D (L.set i e) := by
  intro k
  rw [findE_set he k]
  exact h k
end Go.Proofs.Qxb6613416a
