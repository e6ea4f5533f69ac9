import Derived.Test.Qxb6613414aD2
import Derived.Deep.RegionHeld3
namespace Go.Proofs.Qxb6613414a
open Go.RowKit

theorem copyStr_nil (w : World) : Calls Try.prog 14 #[.pointer none] w fun e w' => e = .returned (.pointer none) ∧ w' = w := by
  go_enter Try.func14, Try.ntmps14
  go_wp2
  go_ret
  exact ⟨rfl, rfl⟩
theorem copyStr_some (b o : Nat) (s : ByteArray) (w : World) (hc : w.cell? ⟨b, o, none⟩ = some (.string s)) :
    Calls Try.prog 14 #[.pointer (some ⟨b, o, none⟩)] w fun e w' => e = .returned (.pointer (some ⟨w.heap.size, 0, none⟩)) ∧ w' = w.alloc (.cells #[.string s] 9) := by
  go_enter Try.func14, Try.ntmps14
  go_wp2
  go_ret
  exact ⟨rfl, rfl⟩
theorem copyBool_nil (w : World) : Calls Try.prog 15 #[.pointer none] w fun e w' => e = .returned (.pointer none) ∧ w' = w := by
  go_enter Try.func15, Try.ntmps15
  go_wp2
  go_ret
  exact ⟨rfl, rfl⟩
theorem copyBool_some (b o : Nat) (s : Bool) (w : World) (hc : w.cell? ⟨b, o, none⟩ = some (.bool s)) :
    Calls Try.prog 15 #[.pointer (some ⟨b, o, none⟩)] w fun e w' => e = .returned (.pointer (some ⟨w.heap.size, 0, none⟩)) ∧ w' = w.alloc (.cells #[.bool s] 4) := by
  go_enter Try.func15, Try.ntmps15
  go_wp2
  go_ret
  exact ⟨rfl, rfl⟩

/-- Block r is a row of N cells of type E, none of them frozen. -/
def IsBlk (W : World) (r E N : Nat) : Prop := ∃ cur : Array Value, W.heap[r]? = some (.cells cur E (0, 0)) ∧ cur.size = N

theorem IsBlk.cell {W : World} {r E N : Nat} (h : IsBlk W r E N) (j : Nat) (hj : j < N) : ∃ v, W.cell? ⟨r, j, none⟩ = some v := by
  obtain ⟨cur, h1, h2⟩ := h
  exact ⟨cur[j]'(by omega), (cell_of_row W r j cur E (0, 0) h1).trans (by simp [h2, hj])⟩
theorem IsBlk.frozen {W : World} {r E N : Nat} (h : IsBlk W r E N) (j : Nat) : W.frozen? ⟨r, j, none⟩ = false := by
  obtain ⟨cur, h1, h2⟩ := h
  exact frozen_of_row W r j cur E h1
theorem IsBlk.lt {W : World} {r E N : Nat} (h : IsBlk W r E N) : r < W.heap.size := by
  obtain ⟨cur, h1, h2⟩ := h
  exact (Array.getElem?_eq_some_iff.1 h1).1
theorem IsBlk.alloc {W : World} {r E N : Nat} (h : IsBlk W r E N) (o : Obj) : IsBlk (W.alloc o) r E N := by
  have hl := h.lt
  obtain ⟨cur, h1, h2⟩ := h
  exact ⟨cur, (heap_alloc_old W o hl).trans h1, h2⟩
theorem IsBlk.setCell {W : World} {r E N : Nat} (h : IsBlk W r E N) (b j : Nat) (u : Value) : IsBlk (W.setCell ⟨b, j, none⟩ u) r E N := by
  obtain ⟨cur, h1, h2⟩ := h
  by_cases hb : r = b
  · subst hb
    exact ⟨_, heap_setCell_same W r j cur E u h1, by simpa using h2⟩
  · exact ⟨cur, (heap_setCell_other W ⟨b, j, none⟩ r u hb).trans h1, h2⟩

/-- Only row r was written, blocks were laid behind; row r is still one. -/
def GB (W w' : World) (r E N : Nat) : Prop := W.grownBy w' (some r) ∧ IsBlk w' r E N
theorem GB.refl {W : World} {r E N : Nat} (h : IsBlk W r E N) : GB W W r E N := ⟨⟨rfl, rfl, rfl, Nat.le_refl _, fun _ _ _ => rfl⟩, h⟩
theorem GB.alloc {W w' : World} {r E N : Nat} (h : GB W w' r E N) (o : Obj) : GB W (w'.alloc o) r E N :=
  ⟨⟨h.1.os, h.1.tape, h.1.output, by have := h.1.size; simp; omega, fun k hk hne => (heap_alloc_old w' o (Nat.lt_of_lt_of_le hk h.1.size)).trans (h.1.block k hk hne)⟩, h.2.alloc o⟩
theorem GB.drew {W w' : World} {r E N : Nat} (h : GB W w' r E N) : GB W w'.drew r E N := ⟨⟨h.1.os, h.1.tape, h.1.output, h.1.size, h.1.block⟩, h.2⟩
theorem GB.setCell {W w' : World} {r E N : Nat} (h : GB W w' r E N) (j : Nat) (u : Value) : GB W (w'.setCell ⟨r, j, none⟩ u) r E N :=
  ⟨⟨h.1.os, h.1.tape, h.1.output, by have := h.1.size; simp [World.setCell]; omega, fun k hk hne => (heap_setCell_other w' ⟨r, j, none⟩ k u (fun e => hne (by simp [e]))).trans (h.1.block k hk hne)⟩, h.2.setCell r j u⟩
theorem GB.trans {W w' w'' : World} {r E N : Nat} (h : GB W w' r E N) (k : GB w' w'' r E N) : GB W w'' r E N :=
  ⟨⟨k.1.os.trans h.1.os, k.1.tape.trans h.1.tape, k.1.output.trans h.1.output, Nat.le_trans h.1.size k.1.size, fun j hj hne => (k.1.block j (Nat.lt_of_lt_of_le hj h.1.size) hne).trans (h.1.block j hj hne)⟩, k.2⟩

theorem gy_refl (W : World) (r : Nat) : W.grownBy W (some r) := ⟨rfl, rfl, rfl, Nat.le_refl _, fun _ _ _ => rfl⟩
theorem gy_alloc {W w' : World} {r : Nat} (h : W.grownBy w' (some r)) (o : Obj) : W.grownBy (w'.alloc o) (some r) :=
  ⟨h.os, h.tape, h.output, by have := h.size; simp; omega, fun k hk hne => (heap_alloc_old w' o (Nat.lt_of_lt_of_le hk h.size)).trans (h.block k hk hne)⟩
theorem gy_drew {W w' : World} {r : Nat} (h : W.grownBy w' (some r)) : W.grownBy w'.drew (some r) := ⟨h.os, h.tape, h.output, h.size, h.block⟩
theorem gy_setCell {W w' : World} {r : Nat} (h : W.grownBy w' (some r)) (j : Nat) (u : Value) : W.grownBy (w'.setCell ⟨r, j, none⟩ u) (some r) :=
  ⟨h.os, h.tape, h.output, by have := h.size; simp [World.setCell]; omega, fun k hk hne => (heap_setCell_other w' ⟨r, j, none⟩ k u (fun e => hne (by simp [e]))).trans (h.block k hk hne)⟩

theorem carry {w0 W wr : World} {g r E N : Nat} (hg : w0.heap.size = g) (hb0 : Below g w0 W) (hG : GB W wr r E N) (hr : g + 2 < r) {b o : Nat} {v : Value} (h : w0.cell? ⟨b, o, none⟩ = some v) : wr.cell? ⟨b, o, none⟩ = some v ∧ b < g := by
  have hlt : b < g := hg ▸ World.block_lt_of_cell? w0 _ h
  exact ⟨hG.1.cell ((hb0.cell (p := ⟨b, o, none⟩) hlt).trans h) (by simp; omega), hlt⟩

/-- The frame of toDoc between two statements. -/
def AT (g : Nat) (a : Act) : Prop := a.tmps.size = 354 ∧ a.defers = [] ∧ slotOf a 1 = .pointer (some ⟨g, 0, none⟩) ∧ slotOf a 2 = .pointer (some ⟨g + 1, 0, none⟩) ∧ slotOf a 3 = .pointer (some ⟨g + 2, 0, none⟩)
def IT (g r E N n slot : Nat) (W : World) (a : Act) (w : World) : Prop := AT g a ∧ (∃ k : Nat, k ≤ n ∧ slotOf a slot = .int .i64 k) ∧ GB W w r E N
theorem IT.step {g r E N n slot k : Nat} {W wr w' : World} {a : Act} (hk : k < n) (h1 : a.tmps.size = 354) (h2 : a.defers = []) (h3 : slotOf a 1 = .pointer (some ⟨g, 0, none⟩)) (h4 : slotOf a 2 = .pointer (some ⟨g + 1, 0, none⟩)) (h5 : slotOf a 3 = .pointer (some ⟨g + 2, 0, none⟩))
    (hs : slotOf a slot = .int .i64 (k + 1)) (hG : GB W wr r E N) (hG' : GB wr w' r E N) : IT g r E N n slot W a w' ∧ MU n slot a w' < n - k := by
  refine ⟨⟨⟨h1, h2, h3, h4, h5⟩, ⟨k + 1, hk, by rw [hs]; rfl⟩, hG.trans hG'⟩, ?_⟩
  unfold MU
  rw [hs]
  simp [intOf]
  omega
end Go.Proofs.Qxb6613414a
