import Derived.Test.Qxb6613414aT1
import Derived.Test.Qxb6613414aT2
namespace Go.Proofs.Qxb6613414a
open Go.RowKit

/-- The element types of the nine lists of a Document, and how many cells each takes. -/
def elemOf (j : Nat) : Nat := [84, 87, 81, 89, 91, 93, 95, 97, 99].getD j 0
def cellsOf (j : Nat) : Nat := [2, 4, 2, 2, 2, 2, 3, 3, 3].getD j 0

/-- A list of the new document: nil where the given one is, else a row of the call's own, as long. -/
def LOk (B : Nat) (w' : World) (a : Option Addr) (n E sz : Nat) (v : Value) : Prop :=
  (a = none ∧ v = .slice none 0 0) ∨ (a ≠ none ∧ ∃ r, v = .slice (some ⟨r, 0, none⟩) n n ∧ B ≤ r ∧ IsBlk w' r E (n * sz))

theorem LOk.keep {B : Nat} {w' w'' : World} {a : Option Addr} {n E sz : Nat} {v : Value} (h : LOk B w' a n E sz v) (hk : ∀ k, B ≤ k → k < w'.heap.size → w''.heap[k]? = w'.heap[k]?) : LOk B w'' a n E sz v := by
  rcases h with h | ⟨ha, r, hv, hr, hb⟩
  · exact .inl h
  · refine .inr ⟨ha, r, hv, hr, ?_⟩
    have hl := hb.lt
    obtain ⟨cur, h1, h2⟩ := hb
    exact ⟨cur, (hk r hr hl).trans h1, h2⟩

/-- What toDoc has made when the first i lists are done. -/
structure DS (w : World) (DC : Array Value) (A : Nat → Option Addr) (N : Nat → Nat) (i : Nat) (w' : World) : Prop where
  bel : Below w.heap.size w w'
  sz : w.heap.size + 2 < w'.heap.size
  box : w'.heap[w.heap.size]? = some (.cells DC 33 (0, 0))
  res : IsBlk w' (w.heap.size + 1) 47 11
  doc : ∃ cs : Array Value, w'.heap[w.heap.size + 2]? = some (.cells cs 47 (0, 0)) ∧ cs.size = 11 ∧ cs.all (·.oneCell') = true ∧
    ∀ j, j < 9 → (j < i → LOk (w.heap.size + 3) w' (A j) (N j) (elemOf j) (cellsOf j) (cs.getD (j + 2) undef)) ∧ (i ≤ j → cs.getD (j + 2) undef = .slice none 0 0)

section
variable {w w' : World} {DC : Array Value} {A : Nat → Option Addr} {N : Nat → Nat} {i : Nat}

theorem DS.alloc (h : DS w DC A N i w') (o : Obj) : DS w DC A N i (w'.alloc o) := by
  obtain ⟨h1, h2, h3, h4, cs, h5, h6, h7, h8⟩ := h
  refine ⟨h1.alloc (by omega) o, by simp; omega, (heap_alloc_old w' o (by omega)).trans h3, h4.alloc o, cs, (heap_alloc_old w' o h2).trans h5, h6, h7, fun j hj => ⟨fun hji => ((h8 j hj).1 hji).keep (fun k _ hk => heap_alloc_old w' o hk), (h8 j hj).2⟩⟩
theorem DS.drew (h : DS w DC A N i w') : DS w DC A N i w'.drew := by
  obtain ⟨h1, h2, h3, h4, cs, h5, h6, h7, h8⟩ := h
  exact ⟨h1.drew, h2, h3, h4, cs, h5, h6, h7, h8⟩
theorem DS.setOrg (h : DS w DC A N i w') (p : Option Addr) : DS w DC A N i (w'.setCell ⟨w.heap.size + 2, 1, none⟩ (.pointer p)) := by
  obtain ⟨h1, h2, h3, h4, cs, h5, h6, h7, h8⟩ := h
  refine ⟨h1.setCell (by simp) _, by simpa [World.setCell] using h2, (heap_setCell_other w' ⟨_, 1, none⟩ _ _ (by simp)).trans h3, h4.setCell _ _ _, _, heap_setCell_same w' _ 1 cs 47 _ h5, by simpa using h6, ?_, fun j hj => ?_⟩
  · rw [Array.all_eq_true] at h7 ⊢
    intro k hk
    rw [Array.getElem_setIfInBounds]
    split
    · rfl
    · exact h7 k (by simpa using hk)
  · have e : (cs.setIfInBounds 1 (.pointer p)).getD (j + 2) undef = cs.getD (j + 2) undef := by
      rw [Array.getD_eq_getD_getElem?, Array.getD_eq_getD_getElem?, Array.getElem?_setIfInBounds_ne (by omega)]
    rw [e]
    exact ⟨fun hji => ((h8 j hj).1 hji).keep (fun k hk _ => heap_setCell_other w' ⟨_, 1, none⟩ k _ (by simp; omega)), (h8 j hj).2⟩
theorem DS.skip (h : DS w DC A N i w') (hA : A i = none) : DS w DC A N (i + 1) w' := by
  obtain ⟨h1, h2, h3, h4, cs, h5, h6, h7, h8⟩ := h
  refine ⟨h1, h2, h3, h4, cs, h5, h6, h7, fun j hj => ⟨fun hji => ?_, fun hji => (h8 j hj).2 (by omega)⟩⟩
  by_cases e : j = i
  · subst e; exact .inl ⟨hA, (h8 j hj).2 (Nat.le_refl _)⟩
  · exact (h8 j hj).1 (by omega)
theorem DS.made (h : DS w DC A N i w') (hi : i < 9) (hA : A i ≠ none) {w1 w'' : World} (hg : w'.grownBy w1 none)
    (hG : GB (w1.setCell ⟨w.heap.size + 2, i + 2, none⟩ (.slice (some ⟨w'.heap.size, 0, none⟩) (N i) (N i))) w'' w'.heap.size (elemOf i) (N i * cellsOf i)) : DS w DC A N (i + 1) w'' := by
  obtain ⟨h1, h2, h3, h4, cs, h5, h6, h7, h8⟩ := h
  have hsz := hg.size
  have hsz2 := hG.1.size
  simp only [World.setCell, Array.size_modify] at hsz2
  have old : ∀ k, k < w'.heap.size → k ≠ w.heap.size + 2 → w''.heap[k]? = w'.heap[k]? := fun k hk hne =>
    (hG.1.block k (by simp [World.setCell]; omega) (by simp; omega)).trans ((heap_setCell_other w1 ⟨_, _, none⟩ k _ hne).trans (hg.block k hk (by simp)))
  have hdoc : w''.heap[w.heap.size + 2]? = some (.cells (cs.setIfInBounds (i + 2) (.slice (some ⟨w'.heap.size, 0, none⟩) (N i) (N i))) 47 (0, 0)) :=
    (hG.1.block _ (by simp [World.setCell]; omega) (by simp; omega)).trans (heap_setCell_same w1 _ (i + 2) cs 47 _ ((hg.block _ h2 (by simp)).trans h5))
  refine ⟨h1.trans ⟨hG.1.os.trans hg.os, hG.1.tape.trans hg.tape, hG.1.output.trans hg.output, by omega, fun k hk => old k (by omega) (by omega)⟩, by omega, (old _ (by omega) (by omega)).trans h3, ?_, _, hdoc, by simpa using h6, ?_, fun j hj => ?_⟩
  · obtain ⟨cur, g1, g2⟩ := h4
    exact ⟨cur, (old _ (by omega) (by omega)).trans g1, g2⟩
  · rw [Array.all_eq_true] at h7 ⊢
    intro k hk
    rw [Array.getElem_setIfInBounds]
    split
    · rfl
    · exact h7 k (by simpa using hk)
  · by_cases e : j = i
    · subst e
      have ev : (cs.setIfInBounds (j + 2) (.slice (some ⟨w'.heap.size, 0, none⟩) (N j) (N j))).getD (j + 2) undef = .slice (some ⟨w'.heap.size, 0, none⟩) (N j) (N j) := by
        rw [Array.getD_eq_getD_getElem?, Array.getElem?_setIfInBounds_self_of_lt (by omega)]; rfl
      rw [ev]
      exact ⟨fun _ => .inr ⟨hA, _, rfl, by omega, hG.2⟩, fun hji => by omega⟩
    · have ev : (cs.setIfInBounds (i + 2) (.slice (some ⟨w'.heap.size, 0, none⟩) (N i) (N i))).getD (j + 2) undef = cs.getD (j + 2) undef := by
        rw [Array.getD_eq_getD_getElem?, Array.getD_eq_getD_getElem?, Array.getElem?_setIfInBounds_ne (by omega)]
      rw [ev]
      exact ⟨fun hji => ((h8 j hj).1 (by omega)).keep (fun k hk hlt => old k hlt (by omega)), fun hji => (h8 j hj).2 (by omega)⟩
end

theorem tloop1 (g r : Nat) (W : World) (A : Option Addr) (n c : Nat) (hd : W.cell? ⟨g, 2, none⟩ = some (.slice A n c)) (ho : W.cell? ⟨g + 2, 2, none⟩ = some (.slice (some ⟨r, 0, none⟩) n n)) (w0 : World) (hg : w0.heap.size = g) (hb0 : Below g w0 W) (hrow : RowK w0 [0, 1] A n) (hn : n ≤ 1048576) (hr : g + 2 < r)
    (hG0 : IsBlk W r 84 (n * 2))
    (Q0 : Exit → Act → World → Prop) (hx : ∀ a' w', AT g a' → GB W w' r 84 (n * 2) → Q0 (.exit 0) a' w')
    (a : Act) (hA : AT g a) (hi : slotOf a 4 = .int .i64 0) : Code.wp Try.prog (Code.loop (sel Try.f6.body 0)) Q0 a W := by
  refine wp_loop (IT g r 84 (n * 2) n 4 W) (MU n 4) ⟨hA, ⟨0, Nat.zero_le _, hi⟩, GB.refl hG0⟩ ?_
  intro a' w' hI
  obtain ⟨hA', ⟨k, hk, hk'⟩, hG⟩ := hI
  rw [MU_at hk']
  exact tround1 g r W A n c hd ho w0 hg hb0 hrow hn hr Q0 hx a' w' hA' hG k hk hk'

theorem tloop2 (g r : Nat) (W : World) (A : Option Addr) (n c : Nat) (hd : W.cell? ⟨g, 3, none⟩ = some (.slice A n c)) (ho : W.cell? ⟨g + 2, 3, none⟩ = some (.slice (some ⟨r, 0, none⟩) n n)) (w0 : World) (hg : w0.heap.size = g) (hb0 : Below g w0 W) (hrow : RowK w0 [0, 0, 1, 2] A n) (hn : n ≤ 1048576) (hr : g + 2 < r)
    (hG0 : IsBlk W r 87 (n * 4))
    (Q0 : Exit → Act → World → Prop) (hx : ∀ a' w', AT g a' → GB W w' r 87 (n * 4) → Q0 (.exit 2) a' w')
    (a : Act) (hA : AT g a) (hi : slotOf a 5 = .int .i64 0) : Code.wp Try.prog (Code.loop (sel Try.f6.body 1)) Q0 a W := by
  refine wp_loop (IT g r 87 (n * 4) n 5 W) (MU n 5) ⟨hA, ⟨0, Nat.zero_le _, hi⟩, GB.refl hG0⟩ ?_
  intro a' w' hI
  obtain ⟨hA', ⟨k, hk, hk'⟩, hG⟩ := hI
  rw [MU_at hk']
  exact tround2 g r W A n c hd ho w0 hg hb0 hrow hn hr Q0 hx a' w' hA' hG k hk hk'

theorem tloop3 (g r : Nat) (W : World) (A : Option Addr) (n c : Nat) (hd : W.cell? ⟨g, 4, none⟩ = some (.slice A n c)) (ho : W.cell? ⟨g + 2, 4, none⟩ = some (.slice (some ⟨r, 0, none⟩) n n)) (w0 : World) (hg : w0.heap.size = g) (hb0 : Below g w0 W) (hrow : RowK w0 [0, 0] A n) (hn : n ≤ 1048576) (hr : g + 2 < r)
    (hG0 : IsBlk W r 81 (n * 2))
    (Q0 : Exit → Act → World → Prop) (hx : ∀ a' w', AT g a' → GB W w' r 81 (n * 2) → Q0 (.exit 4) a' w')
    (a : Act) (hA : AT g a) (hi : slotOf a 6 = .int .i64 0) : Code.wp Try.prog (Code.loop (sel Try.f6.body 2)) Q0 a W := by
  refine wp_loop (IT g r 81 (n * 2) n 6 W) (MU n 6) ⟨hA, ⟨0, Nat.zero_le _, hi⟩, GB.refl hG0⟩ ?_
  intro a' w' hI
  obtain ⟨hA', ⟨k, hk, hk'⟩, hG⟩ := hI
  rw [MU_at hk']
  exact tround3 g r W A n c hd ho w0 hg hb0 hrow hn hr Q0 hx a' w' hA' hG k hk hk'

theorem tloop4 (g r : Nat) (W : World) (A : Option Addr) (n c : Nat) (hd : W.cell? ⟨g, 5, none⟩ = some (.slice A n c)) (ho : W.cell? ⟨g + 2, 5, none⟩ = some (.slice (some ⟨r, 0, none⟩) n n)) (w0 : World) (hg : w0.heap.size = g) (hb0 : Below g w0 W) (hrow : RowK w0 [0, 0] A n) (hn : n ≤ 1048576) (hr : g + 2 < r)
    (hG0 : IsBlk W r 89 (n * 2))
    (Q0 : Exit → Act → World → Prop) (hx : ∀ a' w', AT g a' → GB W w' r 89 (n * 2) → Q0 (.exit 6) a' w')
    (a : Act) (hA : AT g a) (hi : slotOf a 7 = .int .i64 0) : Code.wp Try.prog (Code.loop (sel Try.f6.body 3)) Q0 a W := by
  refine wp_loop (IT g r 89 (n * 2) n 7 W) (MU n 7) ⟨hA, ⟨0, Nat.zero_le _, hi⟩, GB.refl hG0⟩ ?_
  intro a' w' hI
  obtain ⟨hA', ⟨k, hk, hk'⟩, hG⟩ := hI
  rw [MU_at hk']
  exact tround4 g r W A n c hd ho w0 hg hb0 hrow hn hr Q0 hx a' w' hA' hG k hk hk'

theorem tloop5 (g r : Nat) (W : World) (A : Option Addr) (n c : Nat) (hd : W.cell? ⟨g, 6, none⟩ = some (.slice A n c)) (ho : W.cell? ⟨g + 2, 6, none⟩ = some (.slice (some ⟨r, 0, none⟩) n n)) (w0 : World) (hg : w0.heap.size = g) (hb0 : Below g w0 W) (hrow : RowK w0 [0, 0] A n) (hn : n ≤ 1048576) (hr : g + 2 < r)
    (hG0 : IsBlk W r 91 (n * 2))
    (Q0 : Exit → Act → World → Prop) (hx : ∀ a' w', AT g a' → GB W w' r 91 (n * 2) → Q0 (.exit 8) a' w')
    (a : Act) (hA : AT g a) (hi : slotOf a 8 = .int .i64 0) : Code.wp Try.prog (Code.loop (sel Try.f6.body 4)) Q0 a W := by
  refine wp_loop (IT g r 91 (n * 2) n 8 W) (MU n 8) ⟨hA, ⟨0, Nat.zero_le _, hi⟩, GB.refl hG0⟩ ?_
  intro a' w' hI
  obtain ⟨hA', ⟨k, hk, hk'⟩, hG⟩ := hI
  rw [MU_at hk']
  exact tround5 g r W A n c hd ho w0 hg hb0 hrow hn hr Q0 hx a' w' hA' hG k hk hk'

theorem tloop6 (g r : Nat) (W : World) (A : Option Addr) (n c : Nat) (hd : W.cell? ⟨g, 7, none⟩ = some (.slice A n c)) (ho : W.cell? ⟨g + 2, 7, none⟩ = some (.slice (some ⟨r, 0, none⟩) n n)) (w0 : World) (hg : w0.heap.size = g) (hb0 : Below g w0 W) (hrow : RowK w0 [0, 0] A n) (hn : n ≤ 1048576) (hr : g + 2 < r)
    (hG0 : IsBlk W r 93 (n * 2))
    (Q0 : Exit → Act → World → Prop) (hx : ∀ a' w', AT g a' → GB W w' r 93 (n * 2) → Q0 (.exit 10) a' w')
    (a : Act) (hA : AT g a) (hi : slotOf a 9 = .int .i64 0) : Code.wp Try.prog (Code.loop (sel Try.f6.body 5)) Q0 a W := by
  refine wp_loop (IT g r 93 (n * 2) n 9 W) (MU n 9) ⟨hA, ⟨0, Nat.zero_le _, hi⟩, GB.refl hG0⟩ ?_
  intro a' w' hI
  obtain ⟨hA', ⟨k, hk, hk'⟩, hG⟩ := hI
  rw [MU_at hk']
  exact tround6 g r W A n c hd ho w0 hg hb0 hrow hn hr Q0 hx a' w' hA' hG k hk hk'

theorem tloop7 (g r : Nat) (W : World) (A : Option Addr) (n c : Nat) (hd : W.cell? ⟨g, 8, none⟩ = some (.slice A n c)) (ho : W.cell? ⟨g + 2, 8, none⟩ = some (.slice (some ⟨r, 0, none⟩) n n)) (w0 : World) (hg : w0.heap.size = g) (hb0 : Below g w0 W) (hrow : RowK w0 [0, 0, 0] A n) (hn : n ≤ 1048576) (hr : g + 2 < r)
    (hG0 : IsBlk W r 95 (n * 3))
    (Q0 : Exit → Act → World → Prop) (hx : ∀ a' w', AT g a' → GB W w' r 95 (n * 3) → Q0 (.exit 12) a' w')
    (a : Act) (hA : AT g a) (hi : slotOf a 10 = .int .i64 0) : Code.wp Try.prog (Code.loop (sel Try.f6.body 6)) Q0 a W := by
  refine wp_loop (IT g r 95 (n * 3) n 10 W) (MU n 10) ⟨hA, ⟨0, Nat.zero_le _, hi⟩, GB.refl hG0⟩ ?_
  intro a' w' hI
  obtain ⟨hA', ⟨k, hk, hk'⟩, hG⟩ := hI
  rw [MU_at hk']
  exact tround7 g r W A n c hd ho w0 hg hb0 hrow hn hr Q0 hx a' w' hA' hG k hk hk'

theorem tloop8 (g r : Nat) (W : World) (A : Option Addr) (n c : Nat) (hd : W.cell? ⟨g, 9, none⟩ = some (.slice A n c)) (ho : W.cell? ⟨g + 2, 9, none⟩ = some (.slice (some ⟨r, 0, none⟩) n n)) (w0 : World) (hg : w0.heap.size = g) (hb0 : Below g w0 W) (hrow : RowK w0 [0, 0, 0] A n) (hn : n ≤ 1048576) (hr : g + 2 < r)
    (hG0 : IsBlk W r 97 (n * 3))
    (Q0 : Exit → Act → World → Prop) (hx : ∀ a' w', AT g a' → GB W w' r 97 (n * 3) → Q0 (.exit 14) a' w')
    (a : Act) (hA : AT g a) (hi : slotOf a 11 = .int .i64 0) : Code.wp Try.prog (Code.loop (sel Try.f6.body 7)) Q0 a W := by
  refine wp_loop (IT g r 97 (n * 3) n 11 W) (MU n 11) ⟨hA, ⟨0, Nat.zero_le _, hi⟩, GB.refl hG0⟩ ?_
  intro a' w' hI
  obtain ⟨hA', ⟨k, hk, hk'⟩, hG⟩ := hI
  rw [MU_at hk']
  exact tround8 g r W A n c hd ho w0 hg hb0 hrow hn hr Q0 hx a' w' hA' hG k hk hk'

theorem tloop9 (g r : Nat) (W : World) (A : Option Addr) (n c : Nat) (hd : W.cell? ⟨g, 10, none⟩ = some (.slice A n c)) (ho : W.cell? ⟨g + 2, 10, none⟩ = some (.slice (some ⟨r, 0, none⟩) n n)) (w0 : World) (hg : w0.heap.size = g) (hb0 : Below g w0 W) (hrow : RowK w0 [0, 0, 0] A n) (hn : n ≤ 1048576) (hr : g + 2 < r)
    (hG0 : IsBlk W r 99 (n * 3))
    (Q0 : Exit → Act → World → Prop) (hx : ∀ a' w', AT g a' → GB W w' r 99 (n * 3) → Q0 (.exit 16) a' w')
    (a : Act) (hA : AT g a) (hi : slotOf a 12 = .int .i64 0) : Code.wp Try.prog (Code.loop (sel Try.f6.body 8)) Q0 a W := by
  refine wp_loop (IT g r 99 (n * 3) n 12 W) (MU n 12) ⟨hA, ⟨0, Nat.zero_le _, hi⟩, GB.refl hG0⟩ ?_
  intro a' w' hI
  obtain ⟨hA', ⟨k, hk, hk'⟩, hG⟩ := hI
  rw [MU_at hk']
  exact tround9 g r W A n c hd ho w0 hg hb0 hrow hn hr Q0 hx a' w' hA' hG k hk hk'
end Go.Proofs.Qxb6613414a
