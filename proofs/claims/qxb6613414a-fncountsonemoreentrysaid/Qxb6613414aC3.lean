import Derived.Test.Qxb6613414aC2
namespace Go.Proofs.Qxb6613414a
open Go.RowKit Go.Maps

/-- The lists that are carried; their lengths. -/
def carried (a1 a2 a3 a4 a5 a6 a7 a8 a9 : Option Addr) (j : Nat) : Bool := ([a1, a2, a3, a4, a5, a6, a7, a8, a9].getD j none).isSome
def lens (n1 n2 n3 n4 n5 n6 n7 n8 n9 : Nat) (j : Nat) : Nat := [n1, n2, n3, n4, n5, n6, n7, n8, n9].getD j 0

/-- What Counts answers. -/
def CPost (w : World) (B : Nat → Bool) (V : Nat → Nat) (e : Ending) (w' : World) : Prop :=
  ∃ mb D, e = .returned (.map (some mb)) ∧ w.heap.size ≤ mb ∧ Own w' mb 9 D ∧ MapIs D B V 9 ∧ Below w.heap.size w w'

/-- The state of Counts' loop when k relations are done. -/
def CS (w : World) (mb g : Nat) (row : Array Value) (B : Nat → Bool) (V : Nat → Nat) (k : Nat) (w' : World) : Prop :=
  ∃ D, Own w' mb (k + 3) D ∧ MapIs D B V (k + 3) ∧ w'.heap[g]? = some (.cells row 108 (0, 0)) ∧ Below w.heap.size w w' ∧ g ≠ mb ∧ w.heap.size ≤ mb

theorem CS.alloc {w w' : World} {mb g : Nat} {row : Array Value} {B : Nat → Bool} {V : Nat → Nat} {k : Nat} (h : CS w mb g row B V k w') (o : Obj) : CS w mb g row B V k (w'.alloc o) := by
  obtain ⟨D, h1, h2, h3, h4, h5, h6⟩ := h
  exact ⟨D, h1.alloc o, h2, (heap_alloc_old w' o (Array.getElem?_eq_some_iff.1 h3).1).trans h3, h4.alloc h4.size o, h5, h6⟩
theorem CS.skip {w w' : World} {mb g : Nat} {row : Array Value} {B : Nat → Bool} {V : Nat → Nat} {k : Nat} (h : CS w mb g row B V k w') (hb : B (k + 3) = false) : CS w mb g row B V (k + 1) w' := by
  obtain ⟨D, h1, h2, h3, h4, h5, h6⟩ := h
  exact ⟨D, h1.mono (by omega), by have := h2.skip hb; rwa [show k + 3 + 1 = k + 1 + 3 by omega] at this, h3, h4, h5, h6⟩

set_option maxHeartbeats 4000000 in
set_option maxRecDepth 100000 in
theorem counts_any (d : Nat) (a1 a2 a3 a4 a5 a6 a7 a8 a9 : Option Addr) (n1 n2 n3 n4 n5 n6 n7 n8 n9 c1 c2 c3 c4 c5 c6 c7 c8 c9 : Nat) (w : World) (h1 : w.cell? ⟨d, 2, none⟩ = some (.slice a1 n1 c1)) (h2 : w.cell? ⟨d, 3, none⟩ = some (.slice a2 n2 c2)) (h3 : w.cell? ⟨d, 4, none⟩ = some (.slice a3 n3 c3)) (h4 : w.cell? ⟨d, 5, none⟩ = some (.slice a4 n4 c4)) (h5 : w.cell? ⟨d, 6, none⟩ = some (.slice a5 n5 c5)) (h6 : w.cell? ⟨d, 7, none⟩ = some (.slice a6 n6 c6)) (h7 : w.cell? ⟨d, 8, none⟩ = some (.slice a7 n7 c7)) (h8 : w.cell? ⟨d, 9, none⟩ = some (.slice a8 n8 c8)) (h9 : w.cell? ⟨d, 10, none⟩ = some (.slice a9 n9 c9)) (m1 : n1 ≤ 1048577) (m2 : n2 ≤ 1048577) (m3 : n3 ≤ 1048577) (m4 : n4 ≤ 1048577) (m5 : n5 ≤ 1048577) (m6 : n6 ≤ 1048577) (m7 : n7 ≤ 1048577) (m8 : n8 ≤ 1048577) (m9 : n9 ≤ 1048577) :
    Calls Try.prog 7 #[.pointer (some ⟨d, 0, none⟩)] w (CPost w (carried a1 a2 a3 a4 a5 a6 a7 a8 a9) (lens n1 n2 n3 n4 n5 n6 n7 n8 n9)) := by
  have hmm := @run_makeMap Try.prog
  have lb := World.block_lt_of_cell? w _ h1
  simp only at lb
  have H1 := hid h1
  have H2 := hid h2
  have H3 := hid h3
  have H4 := hid h4
  have H5 := hid h5
  have H6 := hid h6
  have H7 := hid h7
  have H8 := hid h8
  have H9 := hid h9
  clear h2 h3 h4 h5 h6 h7 h8 h9
  go_enter Try.func7, Try.ntmps7
  go_wp2_with fail
  refine (count0 w.heap.size 0 (.map []) (carried a1 a2 a3 a4 a5 a6 a7 a8 a9) (lens n1 n2 n3 n4 n5 n6 n7 n8 n9) a1 n1 c1 _ (World.ownsMap_made _ _ _ _) (by omega) (MapIs.zero _ _) rfl rfl m1).mono ?_
  rintro e w1 ⟨rfl, D1, o1, i1, g1⟩
  have O1 := hid o1
  have I1 := hid i1
  have hbe1 := hid (((Below.refl w.heap.size w).alloc (Nat.le_refl _) (.map #[] 0)).grown g1 (by simp) (fun k hk => by cases hk; exact Nat.le_refl _))
  clear o1 i1 g1 h1
  have k2 := cell_on hbe1.out H2.out
  go_wp2_with fail
  refine (count1 w.heap.size 1 D1 (carried a1 a2 a3 a4 a5 a6 a7 a8 a9) (lens n1 n2 n3 n4 n5 n6 n7 n8 n9) a2 n2 c2 _ O1.out (by omega) I1.out rfl rfl m2).mono ?_
  rintro e w2 ⟨rfl, D2, o2, i2, g2⟩
  have O2 := hid o2
  have I2 := hid i2
  have hbe2 := hid (hbe1.out.grown g2 hbe1.out.size (fun k hk => by cases hk; exact Nat.le_refl _))
  clear o2 i2 g2 k2
  have k3 := cell_on hbe2.out H3.out
  go_wp2_with fail
  refine (count2 w.heap.size 2 D2 (carried a1 a2 a3 a4 a5 a6 a7 a8 a9) (lens n1 n2 n3 n4 n5 n6 n7 n8 n9) a3 n3 c3 _ O2.out (by omega) I2.out rfl rfl m3).mono ?_
  rintro e w3 ⟨rfl, D3, o3, i3, g3⟩
  have O3 := hid o3
  have I3 := hid i3
  have hbe3 := hid (hbe2.out.grown g3 hbe2.out.size (fun k hk => by cases hk; exact Nat.le_refl _))
  clear o3 i3 g3 k3
  go_wp2_with fail
  refine (relations_any d a4 a5 a6 a7 a8 a9 n4 c4 n5 c5 n6 c6 n7 c7 n8 c8 n9 c9 _ (cell_on hbe3.out H4.out) (cell_on hbe3.out H5.out) (cell_on hbe3.out H6.out) (cell_on hbe3.out H7.out) (cell_on hbe3.out H8.out) (cell_on hbe3.out H9.out)).mono ?_
  rintro e w4 ⟨⟨g, f4, f5, f6, f7, f8, f9, rfl, hrow, hg⟩, hb4⟩
  have hlt := O3.out.lt
  have CS0 := hid (show CS w w.heap.size g _ (carried a1 a2 a3 a4 a5 a6 a7 a8 a9) (lens n1 n2 n3 n4 n5 n6 n7 n8 n9) 0 w4 from
    ⟨D3, O3.out.kept (row := none) ⟨hb4.os, hb4.tape, hb4.output, hb4.size, fun k hk _ => hb4.block k hk⟩ (by simp), I3.out, hrow, hbe3.out.trans (hb4.mono hbe3.out.size), by omega, Nat.le_refl _⟩)
  clear hrow hg hb4 hmm hlt
  generalize hrr : relRow a4 a5 a6 a7 a8 a9 n4 n5 n6 n7 n8 n9 f4 f5 f6 f7 f8 f9 = row at *
  have RR := hid hrr
  clear hrr
  go_wp2_with fail
  go_loopw [5, 28] (fun _ i wr => ∃ k : Nat, k ≤ 6 ∧ i = .int .i64 k ∧ Hid (CS w w.heap.size g row (carried a1 a2 a3 a4 a5 a6 a7 a8 a9) (lens n1 n2 n3 n4 n5 n6 n7 n8 n9) k wr)) (fun _ i _ => 6 - (intOf i).toNat)
  case atStart => exact ⟨0, by omega, rfl, CS0⟩
  case round =>
    obtain ⟨k, hk, rfl, hC⟩ := hrel
    match k, hk with
    | 0, hk =>
      have x0 : wr.cell? ⟨g, 0, none⟩ = some (.string ⟨#[109, 101, 109, 98, 101, 114, 115, 104, 105, 112, 115]⟩) := by obtain ⟨D, _, _, h3, _⟩ := hC.out; exact (cell_of_row wr g 0 row 108 (0, 0) h3).trans (by rw [← RR.out]; rfl)
      have x1 : wr.cell? ⟨g, 1, none⟩ = some (.bool a4.isSome) := by obtain ⟨D, _, _, h3, _⟩ := hC.out; exact (cell_of_row wr g 1 row 108 (0, 0) h3).trans (by rw [← RR.out]; rfl)
      have x2 : wr.cell? ⟨g, 2, none⟩ = some (.int .i64 n4) := by obtain ⟨D, _, _, h3, _⟩ := hC.out; exact (cell_of_row wr g 2 row 108 (0, 0) h3).trans (by rw [← RR.out]; rfl)
      have x3 : wr.cell? ⟨g, 3, none⟩ = some (.func (.func 32) #[] f4) := by obtain ⟨D, _, _, h3, _⟩ := hC.out; exact (cell_of_row wr g 3 row 108 (0, 0) h3).trans (by rw [← RR.out]; rfl)
      have hkey : keyOf Try.prog 9 (.string ⟨#[109, 101, 109, 98, 101, 114, 115, 104, 105, 112, 115]⟩) = some (nm 3) := WideMaps.keyOf_string_mk Try.underlying9 (by unfold maxLen; decide)
      cases hs : a4.isSome with
      | false =>
        have HS := hid hs
        rw [hs] at x1
        go_wp2
        go_roundw
        case rel => exact ⟨1, by omega, rfl, hid ((hC.out.alloc _).skip HS.out)⟩
        case measure => simp [intOf]
      | true =>
        have HS := hid hs
        rw [hs] at x1
        obtain ⟨D, q1, q2, q3, q4, q5, q6⟩ := hC.out
        have Q1 := hid q1
        have Q2 := hid q2
        have Q3 := hid q3
        have Q4 := hid q4
        clear q1 q2 q3 q4 hs
        go_wp2_with (at_mapUpdate; refine wpList_mapUpdate_own _ rfl _ _ _ 49 rfl 9 3 law9 Try.underlying49 _ w.heap.size 3 D rfl (Q1.out.alloc _) (by unfold maxLen; omega) _ _ _ rfl rfl hkey _ [] (plainElem_int Try.underlying3 (wf_nat n4 m4)) ?_)
        intro w5 hown5 hgrow5
        have O5 := hid hown5
        have G5 := hid hgrow5
        clear hown5 hgrow5
        go_wp2
        go_roundw
        case rel => exact ⟨1, by omega, rfl, hid ⟨_, O5.out, Q2.out.put (by omega) HS.out, (G5.out.block g (by simp; exact Nat.lt_succ_of_lt (Array.getElem?_eq_some_iff.1 Q3.out).1) (by simpa using q5)).trans ((heap_alloc_old wr _ (Array.getElem?_eq_some_iff.1 Q3.out).1).trans Q3.out), (Q4.out.alloc Q4.out.size _).grown G5.out (by simp; exact Nat.le_succ_of_le Q4.out.size) (fun k hk => by cases hk; exact Nat.le_refl _), q5, q6⟩⟩
        case measure => simp [intOf]
    | 1, hk =>
      have x0 : wr.cell? ⟨g, 4, none⟩ = some (.string ⟨#[103, 114, 111, 117, 112, 95, 114, 111, 108, 101, 115]⟩) := by obtain ⟨D, _, _, h3, _⟩ := hC.out; exact (cell_of_row wr g 4 row 108 (0, 0) h3).trans (by rw [← RR.out]; rfl)
      have x1 : wr.cell? ⟨g, 5, none⟩ = some (.bool a5.isSome) := by obtain ⟨D, _, _, h3, _⟩ := hC.out; exact (cell_of_row wr g 5 row 108 (0, 0) h3).trans (by rw [← RR.out]; rfl)
      have x2 : wr.cell? ⟨g, 6, none⟩ = some (.int .i64 n5) := by obtain ⟨D, _, _, h3, _⟩ := hC.out; exact (cell_of_row wr g 6 row 108 (0, 0) h3).trans (by rw [← RR.out]; rfl)
      have x3 : wr.cell? ⟨g, 7, none⟩ = some (.func (.func 33) #[] f5) := by obtain ⟨D, _, _, h3, _⟩ := hC.out; exact (cell_of_row wr g 7 row 108 (0, 0) h3).trans (by rw [← RR.out]; rfl)
      have hkey : keyOf Try.prog 9 (.string ⟨#[103, 114, 111, 117, 112, 95, 114, 111, 108, 101, 115]⟩) = some (nm 4) := WideMaps.keyOf_string_mk Try.underlying9 (by unfold maxLen; decide)
      cases hs : a5.isSome with
      | false =>
        have HS := hid hs
        rw [hs] at x1
        go_wp2
        go_roundw
        case rel => exact ⟨2, by omega, rfl, hid ((hC.out.alloc _).skip HS.out)⟩
        case measure => simp [intOf]
      | true =>
        have HS := hid hs
        rw [hs] at x1
        obtain ⟨D, q1, q2, q3, q4, q5, q6⟩ := hC.out
        have Q1 := hid q1
        have Q2 := hid q2
        have Q3 := hid q3
        have Q4 := hid q4
        clear q1 q2 q3 q4 hs
        go_wp2_with (at_mapUpdate; refine wpList_mapUpdate_own _ rfl _ _ _ 49 rfl 9 3 law9 Try.underlying49 _ w.heap.size 4 D rfl (Q1.out.alloc _) (by unfold maxLen; omega) _ _ _ rfl rfl hkey _ [] (plainElem_int Try.underlying3 (wf_nat n5 m5)) ?_)
        intro w5 hown5 hgrow5
        have O5 := hid hown5
        have G5 := hid hgrow5
        clear hown5 hgrow5
        go_wp2
        go_roundw
        case rel => exact ⟨2, by omega, rfl, hid ⟨_, O5.out, Q2.out.put (by omega) HS.out, (G5.out.block g (by simp; exact Nat.lt_succ_of_lt (Array.getElem?_eq_some_iff.1 Q3.out).1) (by simpa using q5)).trans ((heap_alloc_old wr _ (Array.getElem?_eq_some_iff.1 Q3.out).1).trans Q3.out), (Q4.out.alloc Q4.out.size _).grown G5.out (by simp; exact Nat.le_succ_of_le Q4.out.size) (fun k hk => by cases hk; exact Nat.le_refl _), q5, q6⟩⟩
        case measure => simp [intOf]
    | 2, hk =>
      have x0 : wr.cell? ⟨g, 8, none⟩ = some (.string ⟨#[117, 115, 101, 114, 95, 114, 111, 108, 101, 115]⟩) := by obtain ⟨D, _, _, h3, _⟩ := hC.out; exact (cell_of_row wr g 8 row 108 (0, 0) h3).trans (by rw [← RR.out]; rfl)
      have x1 : wr.cell? ⟨g, 9, none⟩ = some (.bool a6.isSome) := by obtain ⟨D, _, _, h3, _⟩ := hC.out; exact (cell_of_row wr g 9 row 108 (0, 0) h3).trans (by rw [← RR.out]; rfl)
      have x2 : wr.cell? ⟨g, 10, none⟩ = some (.int .i64 n6) := by obtain ⟨D, _, _, h3, _⟩ := hC.out; exact (cell_of_row wr g 10 row 108 (0, 0) h3).trans (by rw [← RR.out]; rfl)
      have x3 : wr.cell? ⟨g, 11, none⟩ = some (.func (.func 34) #[] f6) := by obtain ⟨D, _, _, h3, _⟩ := hC.out; exact (cell_of_row wr g 11 row 108 (0, 0) h3).trans (by rw [← RR.out]; rfl)
      have hkey : keyOf Try.prog 9 (.string ⟨#[117, 115, 101, 114, 95, 114, 111, 108, 101, 115]⟩) = some (nm 5) := WideMaps.keyOf_string_mk Try.underlying9 (by unfold maxLen; decide)
      cases hs : a6.isSome with
      | false =>
        have HS := hid hs
        rw [hs] at x1
        go_wp2
        go_roundw
        case rel => exact ⟨3, by omega, rfl, hid ((hC.out.alloc _).skip HS.out)⟩
        case measure => simp [intOf]
      | true =>
        have HS := hid hs
        rw [hs] at x1
        obtain ⟨D, q1, q2, q3, q4, q5, q6⟩ := hC.out
        have Q1 := hid q1
        have Q2 := hid q2
        have Q3 := hid q3
        have Q4 := hid q4
        clear q1 q2 q3 q4 hs
        go_wp2_with (at_mapUpdate; refine wpList_mapUpdate_own _ rfl _ _ _ 49 rfl 9 3 law9 Try.underlying49 _ w.heap.size 5 D rfl (Q1.out.alloc _) (by unfold maxLen; omega) _ _ _ rfl rfl hkey _ [] (plainElem_int Try.underlying3 (wf_nat n6 m6)) ?_)
        intro w5 hown5 hgrow5
        have O5 := hid hown5
        have G5 := hid hgrow5
        clear hown5 hgrow5
        go_wp2
        go_roundw
        case rel => exact ⟨3, by omega, rfl, hid ⟨_, O5.out, Q2.out.put (by omega) HS.out, (G5.out.block g (by simp; exact Nat.lt_succ_of_lt (Array.getElem?_eq_some_iff.1 Q3.out).1) (by simpa using q5)).trans ((heap_alloc_old wr _ (Array.getElem?_eq_some_iff.1 Q3.out).1).trans Q3.out), (Q4.out.alloc Q4.out.size _).grown G5.out (by simp; exact Nat.le_succ_of_le Q4.out.size) (fun k hk => by cases hk; exact Nat.le_refl _), q5, q6⟩⟩
        case measure => simp [intOf]
    | 3, hk =>
      have x0 : wr.cell? ⟨g, 12, none⟩ = some (.string ⟨#[114, 111, 108, 101, 95, 112, 101, 114, 109, 105, 115, 115, 105, 111, 110, 115]⟩) := by obtain ⟨D, _, _, h3, _⟩ := hC.out; exact (cell_of_row wr g 12 row 108 (0, 0) h3).trans (by rw [← RR.out]; rfl)
      have x1 : wr.cell? ⟨g, 13, none⟩ = some (.bool a7.isSome) := by obtain ⟨D, _, _, h3, _⟩ := hC.out; exact (cell_of_row wr g 13 row 108 (0, 0) h3).trans (by rw [← RR.out]; rfl)
      have x2 : wr.cell? ⟨g, 14, none⟩ = some (.int .i64 n7) := by obtain ⟨D, _, _, h3, _⟩ := hC.out; exact (cell_of_row wr g 14 row 108 (0, 0) h3).trans (by rw [← RR.out]; rfl)
      have x3 : wr.cell? ⟨g, 15, none⟩ = some (.func (.func 35) #[] f7) := by obtain ⟨D, _, _, h3, _⟩ := hC.out; exact (cell_of_row wr g 15 row 108 (0, 0) h3).trans (by rw [← RR.out]; rfl)
      have hkey : keyOf Try.prog 9 (.string ⟨#[114, 111, 108, 101, 95, 112, 101, 114, 109, 105, 115, 115, 105, 111, 110, 115]⟩) = some (nm 6) := WideMaps.keyOf_string_mk Try.underlying9 (by unfold maxLen; decide)
      cases hs : a7.isSome with
      | false =>
        have HS := hid hs
        rw [hs] at x1
        go_wp2
        go_roundw
        case rel => exact ⟨4, by omega, rfl, hid ((hC.out.alloc _).skip HS.out)⟩
        case measure => simp [intOf]
      | true =>
        have HS := hid hs
        rw [hs] at x1
        obtain ⟨D, q1, q2, q3, q4, q5, q6⟩ := hC.out
        have Q1 := hid q1
        have Q2 := hid q2
        have Q3 := hid q3
        have Q4 := hid q4
        clear q1 q2 q3 q4 hs
        go_wp2_with (at_mapUpdate; refine wpList_mapUpdate_own _ rfl _ _ _ 49 rfl 9 3 law9 Try.underlying49 _ w.heap.size 6 D rfl (Q1.out.alloc _) (by unfold maxLen; omega) _ _ _ rfl rfl hkey _ [] (plainElem_int Try.underlying3 (wf_nat n7 m7)) ?_)
        intro w5 hown5 hgrow5
        have O5 := hid hown5
        have G5 := hid hgrow5
        clear hown5 hgrow5
        go_wp2
        go_roundw
        case rel => exact ⟨4, by omega, rfl, hid ⟨_, O5.out, Q2.out.put (by omega) HS.out, (G5.out.block g (by simp; exact Nat.lt_succ_of_lt (Array.getElem?_eq_some_iff.1 Q3.out).1) (by simpa using q5)).trans ((heap_alloc_old wr _ (Array.getElem?_eq_some_iff.1 Q3.out).1).trans Q3.out), (Q4.out.alloc Q4.out.size _).grown G5.out (by simp; exact Nat.le_succ_of_le Q4.out.size) (fun k hk => by cases hk; exact Nat.le_refl _), q5, q6⟩⟩
        case measure => simp [intOf]
    | 4, hk =>
      have x0 : wr.cell? ⟨g, 16, none⟩ = some (.string ⟨#[103, 114, 111, 117, 112, 95, 112, 101, 114, 109, 105, 115, 115, 105, 111, 110, 115]⟩) := by obtain ⟨D, _, _, h3, _⟩ := hC.out; exact (cell_of_row wr g 16 row 108 (0, 0) h3).trans (by rw [← RR.out]; rfl)
      have x1 : wr.cell? ⟨g, 17, none⟩ = some (.bool a8.isSome) := by obtain ⟨D, _, _, h3, _⟩ := hC.out; exact (cell_of_row wr g 17 row 108 (0, 0) h3).trans (by rw [← RR.out]; rfl)
      have x2 : wr.cell? ⟨g, 18, none⟩ = some (.int .i64 n8) := by obtain ⟨D, _, _, h3, _⟩ := hC.out; exact (cell_of_row wr g 18 row 108 (0, 0) h3).trans (by rw [← RR.out]; rfl)
      have x3 : wr.cell? ⟨g, 19, none⟩ = some (.func (.func 36) #[] f8) := by obtain ⟨D, _, _, h3, _⟩ := hC.out; exact (cell_of_row wr g 19 row 108 (0, 0) h3).trans (by rw [← RR.out]; rfl)
      have hkey : keyOf Try.prog 9 (.string ⟨#[103, 114, 111, 117, 112, 95, 112, 101, 114, 109, 105, 115, 115, 105, 111, 110, 115]⟩) = some (nm 7) := WideMaps.keyOf_string_mk Try.underlying9 (by unfold maxLen; decide)
      cases hs : a8.isSome with
      | false =>
        have HS := hid hs
        rw [hs] at x1
        go_wp2
        go_roundw
        case rel => exact ⟨5, by omega, rfl, hid ((hC.out.alloc _).skip HS.out)⟩
        case measure => simp [intOf]
      | true =>
        have HS := hid hs
        rw [hs] at x1
        obtain ⟨D, q1, q2, q3, q4, q5, q6⟩ := hC.out
        have Q1 := hid q1
        have Q2 := hid q2
        have Q3 := hid q3
        have Q4 := hid q4
        clear q1 q2 q3 q4 hs
        go_wp2_with (at_mapUpdate; refine wpList_mapUpdate_own _ rfl _ _ _ 49 rfl 9 3 law9 Try.underlying49 _ w.heap.size 7 D rfl (Q1.out.alloc _) (by unfold maxLen; omega) _ _ _ rfl rfl hkey _ [] (plainElem_int Try.underlying3 (wf_nat n8 m8)) ?_)
        intro w5 hown5 hgrow5
        have O5 := hid hown5
        have G5 := hid hgrow5
        clear hown5 hgrow5
        go_wp2
        go_roundw
        case rel => exact ⟨5, by omega, rfl, hid ⟨_, O5.out, Q2.out.put (by omega) HS.out, (G5.out.block g (by simp; exact Nat.lt_succ_of_lt (Array.getElem?_eq_some_iff.1 Q3.out).1) (by simpa using q5)).trans ((heap_alloc_old wr _ (Array.getElem?_eq_some_iff.1 Q3.out).1).trans Q3.out), (Q4.out.alloc Q4.out.size _).grown G5.out (by simp; exact Nat.le_succ_of_le Q4.out.size) (fun k hk => by cases hk; exact Nat.le_refl _), q5, q6⟩⟩
        case measure => simp [intOf]
    | 5, hk =>
      have x0 : wr.cell? ⟨g, 20, none⟩ = some (.string ⟨#[117, 115, 101, 114, 95, 112, 101, 114, 109, 105, 115, 115, 105, 111, 110, 115]⟩) := by obtain ⟨D, _, _, h3, _⟩ := hC.out; exact (cell_of_row wr g 20 row 108 (0, 0) h3).trans (by rw [← RR.out]; rfl)
      have x1 : wr.cell? ⟨g, 21, none⟩ = some (.bool a9.isSome) := by obtain ⟨D, _, _, h3, _⟩ := hC.out; exact (cell_of_row wr g 21 row 108 (0, 0) h3).trans (by rw [← RR.out]; rfl)
      have x2 : wr.cell? ⟨g, 22, none⟩ = some (.int .i64 n9) := by obtain ⟨D, _, _, h3, _⟩ := hC.out; exact (cell_of_row wr g 22 row 108 (0, 0) h3).trans (by rw [← RR.out]; rfl)
      have x3 : wr.cell? ⟨g, 23, none⟩ = some (.func (.func 37) #[] f9) := by obtain ⟨D, _, _, h3, _⟩ := hC.out; exact (cell_of_row wr g 23 row 108 (0, 0) h3).trans (by rw [← RR.out]; rfl)
      have hkey : keyOf Try.prog 9 (.string ⟨#[117, 115, 101, 114, 95, 112, 101, 114, 109, 105, 115, 115, 105, 111, 110, 115]⟩) = some (nm 8) := WideMaps.keyOf_string_mk Try.underlying9 (by unfold maxLen; decide)
      cases hs : a9.isSome with
      | false =>
        have HS := hid hs
        rw [hs] at x1
        go_wp2
        go_roundw
        case rel => exact ⟨6, by omega, rfl, hid ((hC.out.alloc _).skip HS.out)⟩
        case measure => simp [intOf]
      | true =>
        have HS := hid hs
        rw [hs] at x1
        obtain ⟨D, q1, q2, q3, q4, q5, q6⟩ := hC.out
        have Q1 := hid q1
        have Q2 := hid q2
        have Q3 := hid q3
        have Q4 := hid q4
        clear q1 q2 q3 q4 hs
        go_wp2_with (at_mapUpdate; refine wpList_mapUpdate_own _ rfl _ _ _ 49 rfl 9 3 law9 Try.underlying49 _ w.heap.size 8 D rfl (Q1.out.alloc _) (by unfold maxLen; omega) _ _ _ rfl rfl hkey _ [] (plainElem_int Try.underlying3 (wf_nat n9 m9)) ?_)
        intro w5 hown5 hgrow5
        have O5 := hid hown5
        have G5 := hid hgrow5
        clear hown5 hgrow5
        go_wp2
        go_roundw
        case rel => exact ⟨6, by omega, rfl, hid ⟨_, O5.out, Q2.out.put (by omega) HS.out, (G5.out.block g (by simp; exact Nat.lt_succ_of_lt (Array.getElem?_eq_some_iff.1 Q3.out).1) (by simpa using q5)).trans ((heap_alloc_old wr _ (Array.getElem?_eq_some_iff.1 Q3.out).1).trans Q3.out), (Q4.out.alloc Q4.out.size _).grown G5.out (by simp; exact Nat.le_succ_of_le Q4.out.size) (fun k hk => by cases hk; exact Nat.le_refl _), q5, q6⟩⟩
        case measure => simp [intOf]
    | 6, hk =>
      go_wp2
      go_ret
      obtain ⟨D, q1, q2, q3, q4, q5, q6⟩ := hC.out
      exact ⟨_, D, rfl, q6, q1, q2, q4⟩
    | k + 7, hk => omega
end Go.Proofs.Qxb6613414a
