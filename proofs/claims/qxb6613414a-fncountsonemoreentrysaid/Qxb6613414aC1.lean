import Derived.Test.Qxb6613414aBase
import Derived.Maps.OwnSet
import Derived.Deep.RegionHeld3
import Derived.Laws.EntriesVeiled
namespace Go.Proofs.Qxb6613414a
open Go.RowKit Go.Maps

/-- The names of the nine lists. -/
def nmB (j : Nat) : List UInt8 := [[117, 115, 101, 114, 115], [103, 114, 111, 117, 112, 115], [114, 111, 108, 101, 115], [109, 101, 109, 98, 101, 114, 115, 104, 105, 112, 115], [103, 114, 111, 117, 112, 95, 114, 111, 108, 101, 115], [117, 115, 101, 114, 95, 114, 111, 108, 101, 115], [114, 111, 108, 101, 95, 112, 101, 114, 109, 105, 115, 115, 105, 111, 110, 115], [103, 114, 111, 117, 112, 95, 112, 101, 114, 109, 105, 115, 115, 105, 111, 110, 115], [117, 115, 101, 114, 95, 112, 101, 114, 109, 105, 115, 115, 105, 111, 110, 115]].getD j []
/-- The name as a key. -/
def nm (j : Nat) : Lit := .string (nmB j)

theorem nm_ne : ∀ i j : Nat, i < 9 → j < 9 → i ≠ j → nm i ≠ nm j := by
  have h : ∀ i j : Fin 9, i ≠ j → nmB i.1 ≠ nmB j.1 := by decide
  intro i j hi hj hne he
  exact h ⟨i, hi⟩ ⟨j, hj⟩ (by simpa using hne) (by simpa [nm] using he)

theorem nm_key (j : Nat) : WideAt.IsKeyLit (nm j) := trivial

/-- How many of the first m lists are carried. -/
def cnt (B : Nat → Bool) : Nat → Nat
  | 0 => 0
  | m + 1 => cnt B m + (if B m then 1 else 0)

/-- The map holds just the carried ones among the first m lists, each with its length. -/
def MapIs (D : DataW Unit) (B : Nat → Bool) (V : Nat → Nat) (m : Nat) : Prop :=
  Tidy D ∧ (∀ j, j < 9 → Maps.has D (nm j) = (decide (j < m) && B j) ∧ D.atKey (nm j) (.lit (.int .i64 0)) = .lit (.int .i64 ((if decide (j < m) && B j then V j else 0 : Nat) : Int))) ∧ Maps.size D = cnt B m

theorem MapIs.zero (B : Nat → Bool) (V : Nat → Nat) : MapIs (.map []) B V 0 :=
  ⟨tidy_empty, fun j _ => ⟨by simp [Maps.has], by simp [DataW.atKey]⟩, rfl⟩

theorem MapIs.skip {D : DataW Unit} {B : Nat → Bool} {V : Nat → Nat} {m : Nat} (h : MapIs D B V m) (hb : B m = false) : MapIs D B V (m + 1) := by
  obtain ⟨h1, h2, h3⟩ := h
  have e : ∀ j, (decide (j < m + 1) && B j) = (decide (j < m) && B j) := by
    intro j
    by_cases hj : j = m
    · subst hj; simp [hb]
    · have : (j < m + 1) ↔ (j < m) := by omega
      simp [this]
  refine ⟨h1, fun j hj => ?_, by simp [cnt, hb, h3]⟩
  rw [e]
  exact h2 j hj

theorem MapIs.put {D : DataW Unit} {B : Nat → Bool} {V : Nat → Nat} {m : Nat} (h : MapIs D B V m) (hm : m < 9) (hb : B m = true) : MapIs (D.put (nm m) (.lit (.int .i64 ((V m : Nat) : Int)))) B V (m + 1) := by
  obtain ⟨h1, h2, h3⟩ := h
  refine ⟨h1.put (nm_key m) _, fun j hj => ?_, ?_⟩
  · by_cases e : j = m
    · subst e
      rw [has_put_same h1.isMap (nm_key j), atKey_put_same h1.isMap (nm_key j)]
      simp [hb]
    · rw [has_put_other (nm_ne j m hj hm e), atKey_put_other (nm_ne j m hj hm e)]
      have : (j < m + 1) ↔ (j < m) := by omega
      simp only [this]
      exact h2 j hj
  · rw [size_put h1, (h2 m hm).1]
    simp [cnt, hb, h3]

/-- What counts[name] = len writes into; what it reads. -/
abbrev Own (w : World) (mb n : Nat) (D : DataW Unit) : Prop := w.ownsMap Try.prog 9 (plainElem Try.prog 3) mb n D

theorem law9 : Keyed Try.prog 9 := string_keyed Try.underlying9

theorem wf_nat (n : Nat) (h : n ≤ 1048577) : (Lit.int .i64 (n : Int)).wf = true := WalkArith.wf_i64 (by omega)

set_option maxHeartbeats 800000 in
set_option maxRecDepth 100000 in
theorem count0 (mb k : Nat) (D : DataW Unit) (B : Nat → Bool) (V : Nat → Nat) (a : Option Addr) (n c : Nat) (w : World) (hown : Own w mb k D) (hk : k ≤ 100) (hM : MapIs D B V 0) (hB : B 0 = a.isSome) (hV : V 0 = n) (hn : n ≤ 1048577) :
    Calls Try.prog 16 #[.map (some mb), .string ⟨#[117, 115, 101, 114, 115]⟩, .slice a n c] w fun e w' => e = .returned (.tuple #[]) ∧ ∃ D', Own w' mb (k + 1) D' ∧ MapIs D' B V 1 ∧ w.grownBy w' (some mb) := by
  have hq := fun (w : World) => run_neq_slice_nil_any (P := Try.prog) w 37 84 a n c 0 0 Try.underlying37
  have HO := hid hown
  have HM := hid hM
  have HB := hid hB
  have HV := hid hV
  clear hown hM hB hV
  cases a with
  | none =>
    go_enter Try.func16, Try.ntmps16
    go_wp2
    go_end0
    exact ⟨rfl, D, HO.out.mono (by omega), HM.out.skip HB.out, ⟨rfl, rfl, rfl, Nat.le_refl _, fun _ _ _ => rfl⟩⟩
  | some ad =>
    have hkey : keyOf Try.prog 9 (.string ⟨#[117, 115, 101, 114, 115]⟩) = some (nm 0) := WideMaps.keyOf_string_mk Try.underlying9 (by unfold maxLen; decide)
    go_enter Try.func16, Try.ntmps16
    go_wp2_with (at_mapUpdate; refine wpList_mapUpdate_own _ rfl _ _ _ 49 rfl 9 3 law9 Try.underlying49 _ mb k _ rfl HO.out (by unfold maxLen; omega) _ _ _ rfl rfl hkey _ [] (plainElem_int Try.underlying3 (wf_nat n hn)) ?_)
    intro w1 hown1 hgrow1
    have O1 := hid hown1
    have G1 := hid hgrow1
    clear hown1 hgrow1
    go_wp2
    go_end0
    refine ⟨rfl, _, O1.out, ?_, G1.out⟩
    have := HM.out.put (by omega) HB.out
    rwa [HV.out] at this

set_option maxHeartbeats 800000 in
set_option maxRecDepth 100000 in
theorem count1 (mb k : Nat) (D : DataW Unit) (B : Nat → Bool) (V : Nat → Nat) (a : Option Addr) (n c : Nat) (w : World) (hown : Own w mb k D) (hk : k ≤ 100) (hM : MapIs D B V 1) (hB : B 1 = a.isSome) (hV : V 1 = n) (hn : n ≤ 1048577) :
    Calls Try.prog 17 #[.map (some mb), .string ⟨#[103, 114, 111, 117, 112, 115]⟩, .slice a n c] w fun e w' => e = .returned (.tuple #[]) ∧ ∃ D', Own w' mb (k + 1) D' ∧ MapIs D' B V 2 ∧ w.grownBy w' (some mb) := by
  have hq := fun (w : World) => run_neq_slice_nil_any (P := Try.prog) w 38 87 a n c 0 0 Try.underlying38
  have HO := hid hown
  have HM := hid hM
  have HB := hid hB
  have HV := hid hV
  clear hown hM hB hV
  cases a with
  | none =>
    go_enter Try.func17, Try.ntmps17
    go_wp2
    go_end0
    exact ⟨rfl, D, HO.out.mono (by omega), HM.out.skip HB.out, ⟨rfl, rfl, rfl, Nat.le_refl _, fun _ _ _ => rfl⟩⟩
  | some ad =>
    have hkey : keyOf Try.prog 9 (.string ⟨#[103, 114, 111, 117, 112, 115]⟩) = some (nm 1) := WideMaps.keyOf_string_mk Try.underlying9 (by unfold maxLen; decide)
    go_enter Try.func17, Try.ntmps17
    go_wp2_with (at_mapUpdate; refine wpList_mapUpdate_own _ rfl _ _ _ 49 rfl 9 3 law9 Try.underlying49 _ mb k _ rfl HO.out (by unfold maxLen; omega) _ _ _ rfl rfl hkey _ [] (plainElem_int Try.underlying3 (wf_nat n hn)) ?_)
    intro w1 hown1 hgrow1
    have O1 := hid hown1
    have G1 := hid hgrow1
    clear hown1 hgrow1
    go_wp2
    go_end0
    refine ⟨rfl, _, O1.out, ?_, G1.out⟩
    have := HM.out.put (by omega) HB.out
    rwa [HV.out] at this

set_option maxHeartbeats 800000 in
set_option maxRecDepth 100000 in
theorem count2 (mb k : Nat) (D : DataW Unit) (B : Nat → Bool) (V : Nat → Nat) (a : Option Addr) (n c : Nat) (w : World) (hown : Own w mb k D) (hk : k ≤ 100) (hM : MapIs D B V 2) (hB : B 2 = a.isSome) (hV : V 2 = n) (hn : n ≤ 1048577) :
    Calls Try.prog 18 #[.map (some mb), .string ⟨#[114, 111, 108, 101, 115]⟩, .slice a n c] w fun e w' => e = .returned (.tuple #[]) ∧ ∃ D', Own w' mb (k + 1) D' ∧ MapIs D' B V 3 ∧ w.grownBy w' (some mb) := by
  have hq := fun (w : World) => run_neq_slice_nil_any (P := Try.prog) w 39 81 a n c 0 0 Try.underlying39
  have HO := hid hown
  have HM := hid hM
  have HB := hid hB
  have HV := hid hV
  clear hown hM hB hV
  cases a with
  | none =>
    go_enter Try.func18, Try.ntmps18
    go_wp2
    go_end0
    exact ⟨rfl, D, HO.out.mono (by omega), HM.out.skip HB.out, ⟨rfl, rfl, rfl, Nat.le_refl _, fun _ _ _ => rfl⟩⟩
  | some ad =>
    have hkey : keyOf Try.prog 9 (.string ⟨#[114, 111, 108, 101, 115]⟩) = some (nm 2) := WideMaps.keyOf_string_mk Try.underlying9 (by unfold maxLen; decide)
    go_enter Try.func18, Try.ntmps18
    go_wp2_with (at_mapUpdate; refine wpList_mapUpdate_own _ rfl _ _ _ 49 rfl 9 3 law9 Try.underlying49 _ mb k _ rfl HO.out (by unfold maxLen; omega) _ _ _ rfl rfl hkey _ [] (plainElem_int Try.underlying3 (wf_nat n hn)) ?_)
    intro w1 hown1 hgrow1
    have O1 := hid hown1
    have G1 := hid hgrow1
    clear hown1 hgrow1
    go_wp2
    go_end0
    refine ⟨rfl, _, O1.out, ?_, G1.out⟩
    have := HM.out.put (by omega) HB.out
    rwa [HV.out] at this

set_option maxHeartbeats 800000 in
set_option maxRecDepth 100000 in
theorem rel3 (a : Option Addr) (n c : Nat) (w : World) :
    Calls Try.prog 20 #[.string ⟨#[109, 101, 109, 98, 101, 114, 115, 104, 105, 112, 115]⟩, .slice a n c, .func (.func 21) #[] #[]] w fun e w' => (∃ cap, e = .returned (.agg #[.string ⟨#[109, 101, 109, 98, 101, 114, 115, 104, 105, 112, 115]⟩, .bool a.isSome, .int .i64 n, .func (.func 32) #[] cap])) ∧ Below w.heap.size w w' := by
  have hq := fun (w : World) => run_neq_slice_nil_any (P := Try.prog) w 40 89 a n c 0 0 Try.underlying40
  go_enter Try.func20, Try.ntmps20
  go_wp2
  exact bodyPost_ret (v := .agg #[.string ⟨#[109, 101, 109, 98, 101, 114, 115, 104, 105, 112, 115]⟩, .bool a.isSome, .int .i64 n, .func (.func 32) #[] #[.pointer (some ⟨w.heap.size + 1, 0, none⟩), .pointer (some ⟨w.heap.size, 0, none⟩)]]) (by simp [results, Try.results20, go_sem]) rfl ⟨⟨_, rfl⟩, (((Below.refl _ _).alloc (Nat.le_refl _) _).alloc (by simp) _).alloc (by simp; omega) _⟩

set_option maxHeartbeats 800000 in
set_option maxRecDepth 100000 in
theorem rel4 (a : Option Addr) (n c : Nat) (w : World) :
    Calls Try.prog 22 #[.string ⟨#[103, 114, 111, 117, 112, 95, 114, 111, 108, 101, 115]⟩, .slice a n c, .func (.func 23) #[] #[]] w fun e w' => (∃ cap, e = .returned (.agg #[.string ⟨#[103, 114, 111, 117, 112, 95, 114, 111, 108, 101, 115]⟩, .bool a.isSome, .int .i64 n, .func (.func 33) #[] cap])) ∧ Below w.heap.size w w' := by
  have hq := fun (w : World) => run_neq_slice_nil_any (P := Try.prog) w 41 91 a n c 0 0 Try.underlying41
  go_enter Try.func22, Try.ntmps22
  go_wp2
  exact bodyPost_ret (v := .agg #[.string ⟨#[103, 114, 111, 117, 112, 95, 114, 111, 108, 101, 115]⟩, .bool a.isSome, .int .i64 n, .func (.func 33) #[] #[.pointer (some ⟨w.heap.size + 1, 0, none⟩), .pointer (some ⟨w.heap.size, 0, none⟩)]]) (by simp [results, Try.results22, go_sem]) rfl ⟨⟨_, rfl⟩, (((Below.refl _ _).alloc (Nat.le_refl _) _).alloc (by simp) _).alloc (by simp; omega) _⟩

set_option maxHeartbeats 800000 in
set_option maxRecDepth 100000 in
theorem rel5 (a : Option Addr) (n c : Nat) (w : World) :
    Calls Try.prog 24 #[.string ⟨#[117, 115, 101, 114, 95, 114, 111, 108, 101, 115]⟩, .slice a n c, .func (.func 25) #[] #[]] w fun e w' => (∃ cap, e = .returned (.agg #[.string ⟨#[117, 115, 101, 114, 95, 114, 111, 108, 101, 115]⟩, .bool a.isSome, .int .i64 n, .func (.func 34) #[] cap])) ∧ Below w.heap.size w w' := by
  have hq := fun (w : World) => run_neq_slice_nil_any (P := Try.prog) w 42 93 a n c 0 0 Try.underlying42
  go_enter Try.func24, Try.ntmps24
  go_wp2
  exact bodyPost_ret (v := .agg #[.string ⟨#[117, 115, 101, 114, 95, 114, 111, 108, 101, 115]⟩, .bool a.isSome, .int .i64 n, .func (.func 34) #[] #[.pointer (some ⟨w.heap.size + 1, 0, none⟩), .pointer (some ⟨w.heap.size, 0, none⟩)]]) (by simp [results, Try.results24, go_sem]) rfl ⟨⟨_, rfl⟩, (((Below.refl _ _).alloc (Nat.le_refl _) _).alloc (by simp) _).alloc (by simp; omega) _⟩

set_option maxHeartbeats 800000 in
set_option maxRecDepth 100000 in
theorem rel6 (a : Option Addr) (n c : Nat) (w : World) :
    Calls Try.prog 26 #[.string ⟨#[114, 111, 108, 101, 95, 112, 101, 114, 109, 105, 115, 115, 105, 111, 110, 115]⟩, .slice a n c, .func (.func 27) #[] #[]] w fun e w' => (∃ cap, e = .returned (.agg #[.string ⟨#[114, 111, 108, 101, 95, 112, 101, 114, 109, 105, 115, 115, 105, 111, 110, 115]⟩, .bool a.isSome, .int .i64 n, .func (.func 35) #[] cap])) ∧ Below w.heap.size w w' := by
  have hq := fun (w : World) => run_neq_slice_nil_any (P := Try.prog) w 43 95 a n c 0 0 Try.underlying43
  go_enter Try.func26, Try.ntmps26
  go_wp2
  exact bodyPost_ret (v := .agg #[.string ⟨#[114, 111, 108, 101, 95, 112, 101, 114, 109, 105, 115, 115, 105, 111, 110, 115]⟩, .bool a.isSome, .int .i64 n, .func (.func 35) #[] #[.pointer (some ⟨w.heap.size + 1, 0, none⟩), .pointer (some ⟨w.heap.size, 0, none⟩)]]) (by simp [results, Try.results26, go_sem]) rfl ⟨⟨_, rfl⟩, (((Below.refl _ _).alloc (Nat.le_refl _) _).alloc (by simp) _).alloc (by simp; omega) _⟩

set_option maxHeartbeats 800000 in
set_option maxRecDepth 100000 in
theorem rel7 (a : Option Addr) (n c : Nat) (w : World) :
    Calls Try.prog 28 #[.string ⟨#[103, 114, 111, 117, 112, 95, 112, 101, 114, 109, 105, 115, 115, 105, 111, 110, 115]⟩, .slice a n c, .func (.func 29) #[] #[]] w fun e w' => (∃ cap, e = .returned (.agg #[.string ⟨#[103, 114, 111, 117, 112, 95, 112, 101, 114, 109, 105, 115, 115, 105, 111, 110, 115]⟩, .bool a.isSome, .int .i64 n, .func (.func 36) #[] cap])) ∧ Below w.heap.size w w' := by
  have hq := fun (w : World) => run_neq_slice_nil_any (P := Try.prog) w 44 97 a n c 0 0 Try.underlying44
  go_enter Try.func28, Try.ntmps28
  go_wp2
  exact bodyPost_ret (v := .agg #[.string ⟨#[103, 114, 111, 117, 112, 95, 112, 101, 114, 109, 105, 115, 115, 105, 111, 110, 115]⟩, .bool a.isSome, .int .i64 n, .func (.func 36) #[] #[.pointer (some ⟨w.heap.size + 1, 0, none⟩), .pointer (some ⟨w.heap.size, 0, none⟩)]]) (by simp [results, Try.results28, go_sem]) rfl ⟨⟨_, rfl⟩, (((Below.refl _ _).alloc (Nat.le_refl _) _).alloc (by simp) _).alloc (by simp; omega) _⟩

set_option maxHeartbeats 800000 in
set_option maxRecDepth 100000 in
theorem rel8 (a : Option Addr) (n c : Nat) (w : World) :
    Calls Try.prog 30 #[.string ⟨#[117, 115, 101, 114, 95, 112, 101, 114, 109, 105, 115, 115, 105, 111, 110, 115]⟩, .slice a n c, .func (.func 31) #[] #[]] w fun e w' => (∃ cap, e = .returned (.agg #[.string ⟨#[117, 115, 101, 114, 95, 112, 101, 114, 109, 105, 115, 115, 105, 111, 110, 115]⟩, .bool a.isSome, .int .i64 n, .func (.func 37) #[] cap])) ∧ Below w.heap.size w w' := by
  have hq := fun (w : World) => run_neq_slice_nil_any (P := Try.prog) w 45 99 a n c 0 0 Try.underlying45
  go_enter Try.func30, Try.ntmps30
  go_wp2
  exact bodyPost_ret (v := .agg #[.string ⟨#[117, 115, 101, 114, 95, 112, 101, 114, 109, 105, 115, 115, 105, 111, 110, 115]⟩, .bool a.isSome, .int .i64 n, .func (.func 37) #[] #[.pointer (some ⟨w.heap.size + 1, 0, none⟩), .pointer (some ⟨w.heap.size, 0, none⟩)]]) (by simp [results, Try.results30, go_sem]) rfl ⟨⟨_, rfl⟩, (((Below.refl _ _).alloc (Nat.le_refl _) _).alloc (by simp) _).alloc (by simp; omega) _⟩
end Go.Proofs.Qxb6613414a
