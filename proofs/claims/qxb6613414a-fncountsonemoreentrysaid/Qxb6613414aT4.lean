import Derived.Test.Qxb6613414aT3
import Derived.Laws.Tables
namespace Go.Proofs.Qxb6613414a
open Go.RowKit

/-- What toDoc answers. -/
def TDPost (w : World) (A : Nat → Option Addr) (N : Nat → Nat) (e : Ending) (w' : World) : Prop :=
  ∃ cs : Array Value, e = .returned (.agg cs) ∧ cs.size = 11 ∧ cs.all (·.oneCell') = true ∧ (∀ j, j < 9 → LOk (w.heap.size + 3) w' (A j) (N j) (elemOf j) (cellsOf j) (cs.getD (j + 2) undef)) ∧ Below w.heap.size w w'

theorem info47 : (Try.prog.info? 47).map (·.size) = some 11 := by kernel_rfl
theorem info84 : (Try.prog.info? 84).map (fun i => (i.zero, i.size, i.bytes)) = some (some (.agg #[.string ⟨#[]⟩, .pointer none]), 2, 24) := by kernel_rfl
theorem info87 : (Try.prog.info? 87).map (fun i => (i.zero, i.size, i.bytes)) = some (some (.agg #[.string ⟨#[]⟩, .string ⟨#[]⟩, .pointer none, .pointer none]), 4, 48) := by kernel_rfl
theorem info81 : (Try.prog.info? 81).map (fun i => (i.zero, i.size, i.bytes)) = some (some (.agg #[.string ⟨#[]⟩, .string ⟨#[]⟩]), 2, 32) := by kernel_rfl
theorem info89 : (Try.prog.info? 89).map (fun i => (i.zero, i.size, i.bytes)) = some (some (.agg #[.string ⟨#[]⟩, .string ⟨#[]⟩]), 2, 32) := by kernel_rfl
theorem info91 : (Try.prog.info? 91).map (fun i => (i.zero, i.size, i.bytes)) = some (some (.agg #[.string ⟨#[]⟩, .string ⟨#[]⟩]), 2, 32) := by kernel_rfl
theorem info93 : (Try.prog.info? 93).map (fun i => (i.zero, i.size, i.bytes)) = some (some (.agg #[.string ⟨#[]⟩, .string ⟨#[]⟩]), 2, 32) := by kernel_rfl
theorem info95 : (Try.prog.info? 95).map (fun i => (i.zero, i.size, i.bytes)) = some (some (.agg #[.string ⟨#[]⟩, .string ⟨#[]⟩, .string ⟨#[]⟩]), 3, 48) := by kernel_rfl
theorem info97 : (Try.prog.info? 97).map (fun i => (i.zero, i.size, i.bytes)) = some (some (.agg #[.string ⟨#[]⟩, .string ⟨#[]⟩, .string ⟨#[]⟩]), 3, 48) := by kernel_rfl
theorem info99 : (Try.prog.info? 99).map (fun i => (i.zero, i.size, i.bytes)) = some (some (.agg #[.string ⟨#[]⟩, .string ⟨#[]⟩, .string ⟨#[]⟩]), 3, 48) := by kernel_rfl

theorem DS.start (w : World) (DC : Array Value) (A : Nat → Option Addr) (N : Nat → Nat) (Z : Array Value) (hZ : Z.size = 11) (f : ByteArray) :
    DS w DC A N 0 (((w.alloc (.cells DC 33)).alloc (.cells Z 47)).alloc (.cells #[.string f, .pointer none, .slice none 0 0, .slice none 0 0, .slice none 0 0, .slice none 0 0, .slice none 0 0, .slice none 0 0, .slice none 0 0, .slice none 0 0, .slice none 0 0] 47)) := by
  refine ⟨(((Below.refl _ _).alloc (Nat.le_refl _) _).alloc (by simp) _).alloc (by simp; omega) _, by simp, ?_, ⟨Z, ?_, hZ⟩, #[.string f, .pointer none, .slice none 0 0, .slice none 0 0, .slice none 0 0, .slice none 0 0, .slice none 0 0, .slice none 0 0, .slice none 0 0, .slice none 0 0, .slice none 0 0], ?_, rfl, by simp [Value.oneCell'], fun j hj => ⟨fun h => absurd h (Nat.not_lt_zero _), fun _ => ?_⟩⟩
  · show (((w.heap.push _).push _).push _)[w.heap.size]? = _
    simp only [Array.getElem?_push, Array.size_push]
    rw [if_neg (by omega), if_neg (by omega), if_pos trivial]
  · show (((w.heap.push _).push _).push _)[w.heap.size + 1]? = _
    simp only [Array.getElem?_push, Array.size_push]
    rw [if_neg (by omega), if_pos trivial]
  · show (((w.heap.push _).push _).push _)[w.heap.size + 2]? = _
    simp only [Array.getElem?_push, Array.size_push]
    rw [if_pos trivial]
  · match j, hj with
    | 0, _ => rfl
    | 1, _ => rfl
    | 2, _ => rfl
    | 3, _ => rfl
    | 4, _ => rfl
    | 5, _ => rfl
    | 6, _ => rfl
    | 7, _ => rfl
    | 8, _ => rfl
    | j + 9, hj => omega

theorem DS.boxCell {w w' : World} {DC : Array Value} {A : Nat → Option Addr} {N : Nat → Nat} {i : Nat} (h : DS w DC A N i w') (j : Nat) : w'.cell? ⟨w.heap.size, j, none⟩ = DC[j]? := cell_of_row w' _ j DC 33 (0, 0) h.box
theorem DS.docCell {w w' : World} {DC : Array Value} {A : Nat → Option Addr} {N : Nat → Nat} {i : Nat} (h : DS w DC A N i w') : IsBlk w' (w.heap.size + 2) 47 11 := by
  obtain ⟨cs, h1, h2, _⟩ := h.doc
  exact ⟨cs, h1, h2⟩
theorem grown_blk {w' w1 : World} {r E N : Nat} (hg : w'.grownBy w1 none) (h : IsBlk w' r E N) : IsBlk w1 r E N := by
  have hl := h.lt
  obtain ⟨cur, h1, h2⟩ := h
  exact ⟨cur, (hg.block r hl (by simp)).trans h1, h2⟩
theorem owns_blk {w1 : World} {base E sz r n : Nat} {xs : List Value} (h : w1.ownsRow base E sz (.slice (some ⟨r, 0, none⟩) n n) n xs) : IsBlk w1 r E (n * sz) := by
  rcases h.2 with ⟨h', _⟩ | ⟨g, cap, cur, h', _, hg, _, _, hc, _⟩
  · simp at h'
  · simp only [Value.slice.injEq, Option.some.injEq, Addr.mk.injEq, and_true, true_and] at h'
    obtain ⟨rfl, rfl⟩ := h'
    exact ⟨cur, hg, hc⟩

set_option maxHeartbeats 40000000 in
set_option maxRecDepth 1000000 in
theorem toDoc_any (f : ByteArray) (o : Option Addr) (a1 a2 a3 a4 a5 a6 a7 a8 a9 : Option Addr) (n1 n2 n3 n4 n5 n6 n7 n8 n9 c1 c2 c3 c4 c5 c6 c7 c8 c9 : Nat) (w : World) (hdoc : DocOk w f o a1 a2 a3 a4 a5 a6 a7 a8 a9 n1 n2 n3 n4 n5 n6 n7 n8 n9 c1 c2 c3 c4 c5 c6 c7 c8 c9) (m1 : n1 ≤ 1048576) (m2 : n2 ≤ 1048576) (m3 : n3 ≤ 1048576) (m4 : n4 ≤ 1048576) (m5 : n5 ≤ 1048576) (m6 : n6 ≤ 1048576) (m7 : n7 ≤ 1048576) (m8 : n8 ≤ 1048576) (m9 : n9 ≤ 1048576) :
    Calls Try.prog 6 #[.agg #[.string f, .pointer o, .slice a1 n1 c1, .slice a2 n2 c2, .slice a3 n3 c3, .slice a4 n4 c4, .slice a5 n5 c5, .slice a6 n6 c6, .slice a7 n7 c7, .slice a8 n8 c8, .slice a9 n9 c9]] w (TDPost w (fun j => [a1, a2, a3, a4, a5, a6, a7, a8, a9].getD j none) (fun j => [n1, n2, n3, n4, n5, n6, n7, n8, n9].getD j 0)) := by
  obtain ⟨hlf, horg, ⟨h1, l1, z1⟩, ⟨h2, l2, z2⟩, ⟨h3, l3, z3⟩, ⟨h4, l4, z4⟩, ⟨h5, l5, z5⟩, ⟨h6, l6, z6⟩, ⟨h7, l7, z7⟩, ⟨h8, l8, z8⟩, ⟨h9, l9, z9⟩⟩ := hdoc
  have HO := hid horg
  have H1 := hid h1
  have H2 := hid h2
  have H3 := hid h3
  have H4 := hid h4
  have H5 := hid h5
  have H6 := hid h6
  have H7 := hid h7
  have H8 := hid h8
  have H9 := hid h9
  clear horg h1 l1 z1 h2 l2 z2 h3 l3 z3 h4 l4 z4 h5 l5 z5 h6 l6 z6 h7 l7 z7 h8 l8 z8 h9 l9 z9
  go_enter Try.func6, Try.ntmps6
  go_upto_if 18 with (fail)
  rename_i K hKK
  suffices hx : ∀ a' w', AT w.heap.size a' → DS w #[.string f, .pointer o, .slice a1 n1 c1, .slice a2 n2 c2, .slice a3 n3 c3, .slice a4 n4 c4, .slice a5 n5 c5, .slice a6 n6 c6, .slice a7 n7 c7, .slice a8 n8 c8, .slice a9 n9 c9] (fun j => [a1, a2, a3, a4, a5, a6, a7, a8, a9].getD j none) (fun j => [n1, n2, n3, n4, n5, n6, n7, n8, n9].getD j 0) 0 w' → K a' w' by
    have HX := hid hx
    have HD := hid (DS.start w #[.string f, .pointer o, .slice a1 n1 c1, .slice a2 n2 c2, .slice a3 n3 c3, .slice a4 n4 c4, .slice a5 n5 c5, .slice a6 n6 c6, .slice a7 n7 c7, .slice a8 n8 c8, .slice a9 n9 c9] (fun j => [a1, a2, a3, a4, a5, a6, a7, a8, a9].getD j none) (fun j => [n1, n2, n3, n4, n5, n6, n7, n8, n9].getD j 0) #[.string ⟨#[]⟩, .pointer none, .slice none 0 0, .slice none 0 0, .slice none 0 0, .slice none 0 0, .slice none 0 0, .slice none 0 0, .slice none 0 0, .slice none 0 0, .slice none 0 0] rfl f)
    clear hx hKK H1 H2 H3 H4 H5 H6 H7 H8 H9
    rcases HO.out with rfl | ⟨b, off, s, t, rfl, q1, q2⟩
    · go_wp2
      exact HX.out _ _ ⟨rfl, rfl, rfl, rfl, rfl⟩ HD.out
    · have lb := World.block_lt_of_cell? w _ q1
      simp only at lb
      have p1 := HD.out.boxCell 1
      have q1' := (HD.out.bel.cell (p := ⟨b, off, none⟩) lb).trans q1
      have q2' := (HD.out.bel.cell (p := ⟨b, off + 1, none⟩) lb).trans q2
      obtain ⟨y1, y2⟩ := HD.out.docCell.cell 1 (by omega)
      have y3 := HD.out.docCell.frozen 1
      have hsz := HD.out.sz
      have e1 : ¬ w.heap.size + 1 + 1 = w.heap.size := by omega
      have e2 : ¬ w.heap.size + 1 + 1 = b := by omega
      generalize ((w.alloc (.cells #[.string f, .pointer (some ⟨b, off, none⟩), .slice a1 n1 c1, .slice a2 n2 c2, .slice a3 n3 c3, .slice a4 n4 c4, .slice a5 n5 c5, .slice a6 n6 c6, .slice a7 n7 c7, .slice a8 n8 c8, .slice a9 n9 c9] 33)).alloc (.cells #[.string ⟨#[]⟩, .pointer none, .slice none 0 0, .slice none 0 0, .slice none 0 0, .slice none 0 0, .slice none 0 0, .slice none 0 0, .slice none 0 0, .slice none 0 0, .slice none 0 0] 47)).alloc (.cells #[.string f, .pointer none, .slice none 0 0, .slice none 0 0, .slice none 0 0, .slice none 0 0, .slice none 0 0, .slice none 0 0, .slice none 0 0, .slice none 0 0, .slice none 0 0] 47) = W at *
      have p1' : W.cell? ⟨w.heap.size, 1, none⟩ = some (.pointer (some ⟨b, off, none⟩)) := p1
      clear p1 q1 q2 HO
      go_wp2
      go_region_held3 (fun w' => w'.cell? ⟨w.heap.size, 1, none⟩ = some (.pointer (some ⟨b, off, none⟩)) ∧ w'.cell? ⟨b, off, none⟩ = some (.string s) ∧ w'.cell? ⟨b, off + 1, none⟩ = some (.string t)) (go_keep) (fail)
      go_wp2
      exact HX.out _ _ ⟨rfl, rfl, rfl, rfl, rfl⟩ (by repeat (first | with_reducible apply DS.drew | with_reducible apply DS.setOrg | with_reducible apply DS.alloc | exact HD.out))
  intro a' w' hA hD
  refine hKK a' w' ?_
  clear hKK HO
  obtain ⟨hs, hdf, h1, h2, h3⟩ := hA
  rw [act_lit 354 a' hs hdf]
  generalize slotOf a' = S1 at *
  rw [lit354 S1, h1, h2, h3]
  clear h1 h2 h3 hs hdf
  have D1 := hid hD
  have k1 : w'.cell? ⟨w.heap.size, 2, none⟩ = some (.slice a1 n1 c1) := hD.boxCell 2
  have q1 := fun (w : World) => run_neq_slice_nil_any (P := Try.prog) w 23 61 a1 n1 c1 0 0 Try.underlying23
  clear hD
  go_upto_if 34 with (fail)
  clear a'
  rename_i K hKK
  suffices hx : ∀ a' w', AT w.heap.size a' → DS w #[.string f, .pointer o, .slice a1 n1 c1, .slice a2 n2 c2, .slice a3 n3 c3, .slice a4 n4 c4, .slice a5 n5 c5, .slice a6 n6 c6, .slice a7 n7 c7, .slice a8 n8 c8, .slice a9 n9 c9] (fun j => [a1, a2, a3, a4, a5, a6, a7, a8, a9].getD j none) (fun j => [n1, n2, n3, n4, n5, n6, n7, n8, n9].getD j 0) 1 w' → K a' w' by
    have HX := hid hx
    clear hx hKK
    cases a1 with
    | none =>
      go_wp2
      exact HX.out _ _ ⟨rfl, rfl, rfl, rfl, rfl⟩ (D1.out.skip rfl)
    | some ad =>
      obtain ⟨i0, hi, hz0, hz1, hz2⟩ := info_parts info84
      have HI := hid (And.intro hi (And.intro hz0 (And.intro hz1 hz2)))
      clear hi hz0 hz1 hz2
      go_wp2_with (at_make; refine wpList_make_full _ rfl _ _ 37 rfl (w.heap.size + 3) 84 i0 (.agg #[.string ⟨#[]⟩, .pointer none]) 2 Try.underlying37 HI.out.1 HI.out.2.1 HI.out.2.2.1 _ _ _ _ n1 rfl rfl rfl rfl (by rw [HI.out.2.2.2]; omega) (by unfold maxLen; omega) (by have := D1.out.sz; omega) ?_)
      intro w1 hown hgrow
      have HW := hid hown
      have HG := hid hgrow
      have hb1 := hid (grown_blk hgrow D1.out.docCell)
      obtain ⟨y1, y2⟩ := hb1.out.cell 2 (by omega)
      have y3 := hb1.out.frozen 2
      have k1' := hgrow.cell k1 (by simp)
      clear hown hgrow k1 q1
      go_wp2
      refine tloop1 w.heap.size w'.heap.size _ (some ad) n1 c1 ?_ ?_ w rfl ?_ H1.out m1 D1.out.sz ?_ _ ?_ _ ?_ ?_
      · exact (World.cell?_setCell_other _ _ _ _ (by simp)).trans k1'
      · exact World.cell?_setCell_same _ _ _ y2
      · exact (D1.out.bel.grown HG.out D1.out.bel.size (fun k hk => by cases hk)).setCell (by simp) _
      · exact (owns_blk HW.out).setCell _ _ _
      · intro a' w'' hA' hG'
        exact HX.out a' w'' hA' (D1.out.made (by omega) (by simp) HG.out hG')
      · exact ⟨rfl, rfl, rfl, rfl, rfl⟩
      · rfl
  intro a' w'' hA hD
  clear k1 q1 D1
  refine hKK a' w'' ?_
  clear hKK w'
  obtain ⟨w', rfl⟩ : ∃ w', w' = w'' := ⟨_, rfl⟩
  obtain ⟨hs, hdf, h1, h2, h3⟩ := hA
  rw [act_lit 354 a' hs hdf]
  generalize slotOf a' = S2 at *
  rw [lit354 S2, h1, h2, h3]
  clear h1 h2 h3 hs hdf
  have D2 := hid hD
  have k2 : w'.cell? ⟨w.heap.size, 3, none⟩ = some (.slice a2 n2 c2) := hD.boxCell 3
  have q2 := fun (w : World) => run_neq_slice_nil_any (P := Try.prog) w 24 64 a2 n2 c2 0 0 Try.underlying24
  clear hD
  go_upto_if 67 with (fail)
  clear a'
  rename_i K hKK
  suffices hx : ∀ a' w', AT w.heap.size a' → DS w #[.string f, .pointer o, .slice a1 n1 c1, .slice a2 n2 c2, .slice a3 n3 c3, .slice a4 n4 c4, .slice a5 n5 c5, .slice a6 n6 c6, .slice a7 n7 c7, .slice a8 n8 c8, .slice a9 n9 c9] (fun j => [a1, a2, a3, a4, a5, a6, a7, a8, a9].getD j none) (fun j => [n1, n2, n3, n4, n5, n6, n7, n8, n9].getD j 0) 2 w' → K a' w' by
    have HX := hid hx
    clear hx hKK
    cases a2 with
    | none =>
      go_wp2
      exact HX.out _ _ ⟨rfl, rfl, rfl, rfl, rfl⟩ (D2.out.skip rfl)
    | some ad =>
      obtain ⟨i0, hi, hz0, hz1, hz2⟩ := info_parts info87
      have HI := hid (And.intro hi (And.intro hz0 (And.intro hz1 hz2)))
      clear hi hz0 hz1 hz2
      go_wp2_with (at_make; refine wpList_make_full _ rfl _ _ 38 rfl (w.heap.size + 3) 87 i0 (.agg #[.string ⟨#[]⟩, .string ⟨#[]⟩, .pointer none, .pointer none]) 4 Try.underlying38 HI.out.1 HI.out.2.1 HI.out.2.2.1 _ _ _ _ n2 rfl rfl rfl rfl (by rw [HI.out.2.2.2]; omega) (by unfold maxLen; omega) (by have := D2.out.sz; omega) ?_)
      intro w1 hown hgrow
      have HW := hid hown
      have HG := hid hgrow
      have hb1 := hid (grown_blk hgrow D2.out.docCell)
      obtain ⟨y1, y2⟩ := hb1.out.cell 3 (by omega)
      have y3 := hb1.out.frozen 3
      have k2' := hgrow.cell k2 (by simp)
      clear hown hgrow k2 q2
      go_wp2
      refine tloop2 w.heap.size w'.heap.size _ (some ad) n2 c2 ?_ ?_ w rfl ?_ H2.out m2 D2.out.sz ?_ _ ?_ _ ?_ ?_
      · exact (World.cell?_setCell_other _ _ _ _ (by simp)).trans k2'
      · exact World.cell?_setCell_same _ _ _ y2
      · exact (D2.out.bel.grown HG.out D2.out.bel.size (fun k hk => by cases hk)).setCell (by simp) _
      · exact (owns_blk HW.out).setCell _ _ _
      · intro a' w'' hA' hG'
        exact HX.out a' w'' hA' (D2.out.made (by omega) (by simp) HG.out hG')
      · exact ⟨rfl, rfl, rfl, rfl, rfl⟩
      · rfl
  intro a' w'' hA hD
  clear k2 q2 D2
  refine hKK a' w'' ?_
  clear hKK w'
  obtain ⟨w', rfl⟩ : ∃ w', w' = w'' := ⟨_, rfl⟩
  obtain ⟨hs, hdf, h1, h2, h3⟩ := hA
  rw [act_lit 354 a' hs hdf]
  generalize slotOf a' = S3 at *
  rw [lit354 S3, h1, h2, h3]
  clear h1 h2 h3 hs hdf
  have D3 := hid hD
  have k3 : w'.cell? ⟨w.heap.size, 4, none⟩ = some (.slice a3 n3 c3) := hD.boxCell 4
  have q3 := fun (w : World) => run_neq_slice_nil_any (P := Try.prog) w 25 58 a3 n3 c3 0 0 Try.underlying25
  clear hD
  go_upto_if 113 with (fail)
  clear a'
  rename_i K hKK
  suffices hx : ∀ a' w', AT w.heap.size a' → DS w #[.string f, .pointer o, .slice a1 n1 c1, .slice a2 n2 c2, .slice a3 n3 c3, .slice a4 n4 c4, .slice a5 n5 c5, .slice a6 n6 c6, .slice a7 n7 c7, .slice a8 n8 c8, .slice a9 n9 c9] (fun j => [a1, a2, a3, a4, a5, a6, a7, a8, a9].getD j none) (fun j => [n1, n2, n3, n4, n5, n6, n7, n8, n9].getD j 0) 3 w' → K a' w' by
    have HX := hid hx
    clear hx hKK
    cases a3 with
    | none =>
      go_wp2
      exact HX.out _ _ ⟨rfl, rfl, rfl, rfl, rfl⟩ (D3.out.skip rfl)
    | some ad =>
      obtain ⟨i0, hi, hz0, hz1, hz2⟩ := info_parts info81
      have HI := hid (And.intro hi (And.intro hz0 (And.intro hz1 hz2)))
      clear hi hz0 hz1 hz2
      go_wp2_with (at_make; refine wpList_make_full _ rfl _ _ 39 rfl (w.heap.size + 3) 81 i0 (.agg #[.string ⟨#[]⟩, .string ⟨#[]⟩]) 2 Try.underlying39 HI.out.1 HI.out.2.1 HI.out.2.2.1 _ _ _ _ n3 rfl rfl rfl rfl (by rw [HI.out.2.2.2]; omega) (by unfold maxLen; omega) (by have := D3.out.sz; omega) ?_)
      intro w1 hown hgrow
      have HW := hid hown
      have HG := hid hgrow
      have hb1 := hid (grown_blk hgrow D3.out.docCell)
      obtain ⟨y1, y2⟩ := hb1.out.cell 4 (by omega)
      have y3 := hb1.out.frozen 4
      have k3' := hgrow.cell k3 (by simp)
      clear hown hgrow k3 q3
      go_wp2
      refine tloop3 w.heap.size w'.heap.size _ (some ad) n3 c3 ?_ ?_ w rfl ?_ H3.out m3 D3.out.sz ?_ _ ?_ _ ?_ ?_
      · exact (World.cell?_setCell_other _ _ _ _ (by simp)).trans k3'
      · exact World.cell?_setCell_same _ _ _ y2
      · exact (D3.out.bel.grown HG.out D3.out.bel.size (fun k hk => by cases hk)).setCell (by simp) _
      · exact (owns_blk HW.out).setCell _ _ _
      · intro a' w'' hA' hG'
        exact HX.out a' w'' hA' (D3.out.made (by omega) (by simp) HG.out hG')
      · exact ⟨rfl, rfl, rfl, rfl, rfl⟩
      · rfl
  intro a' w'' hA hD
  clear k3 q3 D3
  refine hKK a' w'' ?_
  clear hKK w'
  obtain ⟨w', rfl⟩ : ∃ w', w' = w'' := ⟨_, rfl⟩
  obtain ⟨hs, hdf, h1, h2, h3⟩ := hA
  rw [act_lit 354 a' hs hdf]
  generalize slotOf a' = S4 at *
  rw [lit354 S4, h1, h2, h3]
  clear h1 h2 h3 hs hdf
  have D4 := hid hD
  have k4 : w'.cell? ⟨w.heap.size, 5, none⟩ = some (.slice a4 n4 c4) := hD.boxCell 5
  have q4 := fun (w : World) => run_neq_slice_nil_any (P := Try.prog) w 26 66 a4 n4 c4 0 0 Try.underlying26
  clear hD
  go_upto_if 145 with (fail)
  clear a'
  rename_i K hKK
  suffices hx : ∀ a' w', AT w.heap.size a' → DS w #[.string f, .pointer o, .slice a1 n1 c1, .slice a2 n2 c2, .slice a3 n3 c3, .slice a4 n4 c4, .slice a5 n5 c5, .slice a6 n6 c6, .slice a7 n7 c7, .slice a8 n8 c8, .slice a9 n9 c9] (fun j => [a1, a2, a3, a4, a5, a6, a7, a8, a9].getD j none) (fun j => [n1, n2, n3, n4, n5, n6, n7, n8, n9].getD j 0) 4 w' → K a' w' by
    have HX := hid hx
    clear hx hKK
    cases a4 with
    | none =>
      go_wp2
      exact HX.out _ _ ⟨rfl, rfl, rfl, rfl, rfl⟩ (D4.out.skip rfl)
    | some ad =>
      obtain ⟨i0, hi, hz0, hz1, hz2⟩ := info_parts info89
      have HI := hid (And.intro hi (And.intro hz0 (And.intro hz1 hz2)))
      clear hi hz0 hz1 hz2
      go_wp2_with (at_make; refine wpList_make_full _ rfl _ _ 40 rfl (w.heap.size + 3) 89 i0 (.agg #[.string ⟨#[]⟩, .string ⟨#[]⟩]) 2 Try.underlying40 HI.out.1 HI.out.2.1 HI.out.2.2.1 _ _ _ _ n4 rfl rfl rfl rfl (by rw [HI.out.2.2.2]; omega) (by unfold maxLen; omega) (by have := D4.out.sz; omega) ?_)
      intro w1 hown hgrow
      have HW := hid hown
      have HG := hid hgrow
      have hb1 := hid (grown_blk hgrow D4.out.docCell)
      obtain ⟨y1, y2⟩ := hb1.out.cell 5 (by omega)
      have y3 := hb1.out.frozen 5
      have k4' := hgrow.cell k4 (by simp)
      clear hown hgrow k4 q4
      go_wp2
      refine tloop4 w.heap.size w'.heap.size _ (some ad) n4 c4 ?_ ?_ w rfl ?_ H4.out m4 D4.out.sz ?_ _ ?_ _ ?_ ?_
      · exact (World.cell?_setCell_other _ _ _ _ (by simp)).trans k4'
      · exact World.cell?_setCell_same _ _ _ y2
      · exact (D4.out.bel.grown HG.out D4.out.bel.size (fun k hk => by cases hk)).setCell (by simp) _
      · exact (owns_blk HW.out).setCell _ _ _
      · intro a' w'' hA' hG'
        exact HX.out a' w'' hA' (D4.out.made (by omega) (by simp) HG.out hG')
      · exact ⟨rfl, rfl, rfl, rfl, rfl⟩
      · rfl
  intro a' w'' hA hD
  clear k4 q4 D4
  refine hKK a' w'' ?_
  clear hKK w'
  obtain ⟨w', rfl⟩ : ∃ w', w' = w'' := ⟨_, rfl⟩
  obtain ⟨hs, hdf, h1, h2, h3⟩ := hA
  rw [act_lit 354 a' hs hdf]
  generalize slotOf a' = S5 at *
  rw [lit354 S5, h1, h2, h3]
  clear h1 h2 h3 hs hdf
  have D5 := hid hD
  have k5 : w'.cell? ⟨w.heap.size, 6, none⟩ = some (.slice a5 n5 c5) := hD.boxCell 6
  have q5 := fun (w : World) => run_neq_slice_nil_any (P := Try.prog) w 27 68 a5 n5 c5 0 0 Try.underlying27
  clear hD
  go_upto_if 177 with (fail)
  clear a'
  rename_i K hKK
  suffices hx : ∀ a' w', AT w.heap.size a' → DS w #[.string f, .pointer o, .slice a1 n1 c1, .slice a2 n2 c2, .slice a3 n3 c3, .slice a4 n4 c4, .slice a5 n5 c5, .slice a6 n6 c6, .slice a7 n7 c7, .slice a8 n8 c8, .slice a9 n9 c9] (fun j => [a1, a2, a3, a4, a5, a6, a7, a8, a9].getD j none) (fun j => [n1, n2, n3, n4, n5, n6, n7, n8, n9].getD j 0) 5 w' → K a' w' by
    have HX := hid hx
    clear hx hKK
    cases a5 with
    | none =>
      go_wp2
      exact HX.out _ _ ⟨rfl, rfl, rfl, rfl, rfl⟩ (D5.out.skip rfl)
    | some ad =>
      obtain ⟨i0, hi, hz0, hz1, hz2⟩ := info_parts info91
      have HI := hid (And.intro hi (And.intro hz0 (And.intro hz1 hz2)))
      clear hi hz0 hz1 hz2
      go_wp2_with (at_make; refine wpList_make_full _ rfl _ _ 41 rfl (w.heap.size + 3) 91 i0 (.agg #[.string ⟨#[]⟩, .string ⟨#[]⟩]) 2 Try.underlying41 HI.out.1 HI.out.2.1 HI.out.2.2.1 _ _ _ _ n5 rfl rfl rfl rfl (by rw [HI.out.2.2.2]; omega) (by unfold maxLen; omega) (by have := D5.out.sz; omega) ?_)
      intro w1 hown hgrow
      have HW := hid hown
      have HG := hid hgrow
      have hb1 := hid (grown_blk hgrow D5.out.docCell)
      obtain ⟨y1, y2⟩ := hb1.out.cell 6 (by omega)
      have y3 := hb1.out.frozen 6
      have k5' := hgrow.cell k5 (by simp)
      clear hown hgrow k5 q5
      go_wp2
      refine tloop5 w.heap.size w'.heap.size _ (some ad) n5 c5 ?_ ?_ w rfl ?_ H5.out m5 D5.out.sz ?_ _ ?_ _ ?_ ?_
      · exact (World.cell?_setCell_other _ _ _ _ (by simp)).trans k5'
      · exact World.cell?_setCell_same _ _ _ y2
      · exact (D5.out.bel.grown HG.out D5.out.bel.size (fun k hk => by cases hk)).setCell (by simp) _
      · exact (owns_blk HW.out).setCell _ _ _
      · intro a' w'' hA' hG'
        exact HX.out a' w'' hA' (D5.out.made (by omega) (by simp) HG.out hG')
      · exact ⟨rfl, rfl, rfl, rfl, rfl⟩
      · rfl
  intro a' w'' hA hD
  clear k5 q5 D5
  refine hKK a' w'' ?_
  clear hKK w'
  obtain ⟨w', rfl⟩ : ∃ w', w' = w'' := ⟨_, rfl⟩
  obtain ⟨hs, hdf, h1, h2, h3⟩ := hA
  rw [act_lit 354 a' hs hdf]
  generalize slotOf a' = S6 at *
  rw [lit354 S6, h1, h2, h3]
  clear h1 h2 h3 hs hdf
  have D6 := hid hD
  have k6 : w'.cell? ⟨w.heap.size, 7, none⟩ = some (.slice a6 n6 c6) := hD.boxCell 7
  have q6 := fun (w : World) => run_neq_slice_nil_any (P := Try.prog) w 28 70 a6 n6 c6 0 0 Try.underlying28
  clear hD
  go_upto_if 209 with (fail)
  clear a'
  rename_i K hKK
  suffices hx : ∀ a' w', AT w.heap.size a' → DS w #[.string f, .pointer o, .slice a1 n1 c1, .slice a2 n2 c2, .slice a3 n3 c3, .slice a4 n4 c4, .slice a5 n5 c5, .slice a6 n6 c6, .slice a7 n7 c7, .slice a8 n8 c8, .slice a9 n9 c9] (fun j => [a1, a2, a3, a4, a5, a6, a7, a8, a9].getD j none) (fun j => [n1, n2, n3, n4, n5, n6, n7, n8, n9].getD j 0) 6 w' → K a' w' by
    have HX := hid hx
    clear hx hKK
    cases a6 with
    | none =>
      go_wp2
      exact HX.out _ _ ⟨rfl, rfl, rfl, rfl, rfl⟩ (D6.out.skip rfl)
    | some ad =>
      obtain ⟨i0, hi, hz0, hz1, hz2⟩ := info_parts info93
      have HI := hid (And.intro hi (And.intro hz0 (And.intro hz1 hz2)))
      clear hi hz0 hz1 hz2
      go_wp2_with (at_make; refine wpList_make_full _ rfl _ _ 42 rfl (w.heap.size + 3) 93 i0 (.agg #[.string ⟨#[]⟩, .string ⟨#[]⟩]) 2 Try.underlying42 HI.out.1 HI.out.2.1 HI.out.2.2.1 _ _ _ _ n6 rfl rfl rfl rfl (by rw [HI.out.2.2.2]; omega) (by unfold maxLen; omega) (by have := D6.out.sz; omega) ?_)
      intro w1 hown hgrow
      have HW := hid hown
      have HG := hid hgrow
      have hb1 := hid (grown_blk hgrow D6.out.docCell)
      obtain ⟨y1, y2⟩ := hb1.out.cell 7 (by omega)
      have y3 := hb1.out.frozen 7
      have k6' := hgrow.cell k6 (by simp)
      clear hown hgrow k6 q6
      go_wp2
      refine tloop6 w.heap.size w'.heap.size _ (some ad) n6 c6 ?_ ?_ w rfl ?_ H6.out m6 D6.out.sz ?_ _ ?_ _ ?_ ?_
      · exact (World.cell?_setCell_other _ _ _ _ (by simp)).trans k6'
      · exact World.cell?_setCell_same _ _ _ y2
      · exact (D6.out.bel.grown HG.out D6.out.bel.size (fun k hk => by cases hk)).setCell (by simp) _
      · exact (owns_blk HW.out).setCell _ _ _
      · intro a' w'' hA' hG'
        exact HX.out a' w'' hA' (D6.out.made (by omega) (by simp) HG.out hG')
      · exact ⟨rfl, rfl, rfl, rfl, rfl⟩
      · rfl
  intro a' w'' hA hD
  clear k6 q6 D6
  refine hKK a' w'' ?_
  clear hKK w'
  obtain ⟨w', rfl⟩ : ∃ w', w' = w'' := ⟨_, rfl⟩
  obtain ⟨hs, hdf, h1, h2, h3⟩ := hA
  rw [act_lit 354 a' hs hdf]
  generalize slotOf a' = S7 at *
  rw [lit354 S7, h1, h2, h3]
  clear h1 h2 h3 hs hdf
  have D7 := hid hD
  have k7 : w'.cell? ⟨w.heap.size, 8, none⟩ = some (.slice a7 n7 c7) := hD.boxCell 8
  have q7 := fun (w : World) => run_neq_slice_nil_any (P := Try.prog) w 29 72 a7 n7 c7 0 0 Try.underlying29
  clear hD
  go_upto_if 241 with (fail)
  clear a'
  rename_i K hKK
  suffices hx : ∀ a' w', AT w.heap.size a' → DS w #[.string f, .pointer o, .slice a1 n1 c1, .slice a2 n2 c2, .slice a3 n3 c3, .slice a4 n4 c4, .slice a5 n5 c5, .slice a6 n6 c6, .slice a7 n7 c7, .slice a8 n8 c8, .slice a9 n9 c9] (fun j => [a1, a2, a3, a4, a5, a6, a7, a8, a9].getD j none) (fun j => [n1, n2, n3, n4, n5, n6, n7, n8, n9].getD j 0) 7 w' → K a' w' by
    have HX := hid hx
    clear hx hKK
    cases a7 with
    | none =>
      go_wp2
      exact HX.out _ _ ⟨rfl, rfl, rfl, rfl, rfl⟩ (D7.out.skip rfl)
    | some ad =>
      obtain ⟨i0, hi, hz0, hz1, hz2⟩ := info_parts info95
      have HI := hid (And.intro hi (And.intro hz0 (And.intro hz1 hz2)))
      clear hi hz0 hz1 hz2
      go_wp2_with (at_make; refine wpList_make_full _ rfl _ _ 43 rfl (w.heap.size + 3) 95 i0 (.agg #[.string ⟨#[]⟩, .string ⟨#[]⟩, .string ⟨#[]⟩]) 3 Try.underlying43 HI.out.1 HI.out.2.1 HI.out.2.2.1 _ _ _ _ n7 rfl rfl rfl rfl (by rw [HI.out.2.2.2]; omega) (by unfold maxLen; omega) (by have := D7.out.sz; omega) ?_)
      intro w1 hown hgrow
      have HW := hid hown
      have HG := hid hgrow
      have hb1 := hid (grown_blk hgrow D7.out.docCell)
      obtain ⟨y1, y2⟩ := hb1.out.cell 8 (by omega)
      have y3 := hb1.out.frozen 8
      have k7' := hgrow.cell k7 (by simp)
      clear hown hgrow k7 q7
      go_wp2
      refine tloop7 w.heap.size w'.heap.size _ (some ad) n7 c7 ?_ ?_ w rfl ?_ H7.out m7 D7.out.sz ?_ _ ?_ _ ?_ ?_
      · exact (World.cell?_setCell_other _ _ _ _ (by simp)).trans k7'
      · exact World.cell?_setCell_same _ _ _ y2
      · exact (D7.out.bel.grown HG.out D7.out.bel.size (fun k hk => by cases hk)).setCell (by simp) _
      · exact (owns_blk HW.out).setCell _ _ _
      · intro a' w'' hA' hG'
        exact HX.out a' w'' hA' (D7.out.made (by omega) (by simp) HG.out hG')
      · exact ⟨rfl, rfl, rfl, rfl, rfl⟩
      · rfl
  intro a' w'' hA hD
  clear k7 q7 D7
  refine hKK a' w'' ?_
  clear hKK w'
  obtain ⟨w', rfl⟩ : ∃ w', w' = w'' := ⟨_, rfl⟩
  obtain ⟨hs, hdf, h1, h2, h3⟩ := hA
  rw [act_lit 354 a' hs hdf]
  generalize slotOf a' = S8 at *
  rw [lit354 S8, h1, h2, h3]
  clear h1 h2 h3 hs hdf
  have D8 := hid hD
  have k8 : w'.cell? ⟨w.heap.size, 9, none⟩ = some (.slice a8 n8 c8) := hD.boxCell 9
  have q8 := fun (w : World) => run_neq_slice_nil_any (P := Try.prog) w 30 74 a8 n8 c8 0 0 Try.underlying30
  clear hD
  go_upto_if 279 with (fail)
  clear a'
  rename_i K hKK
  suffices hx : ∀ a' w', AT w.heap.size a' → DS w #[.string f, .pointer o, .slice a1 n1 c1, .slice a2 n2 c2, .slice a3 n3 c3, .slice a4 n4 c4, .slice a5 n5 c5, .slice a6 n6 c6, .slice a7 n7 c7, .slice a8 n8 c8, .slice a9 n9 c9] (fun j => [a1, a2, a3, a4, a5, a6, a7, a8, a9].getD j none) (fun j => [n1, n2, n3, n4, n5, n6, n7, n8, n9].getD j 0) 8 w' → K a' w' by
    have HX := hid hx
    clear hx hKK
    cases a8 with
    | none =>
      go_wp2
      exact HX.out _ _ ⟨rfl, rfl, rfl, rfl, rfl⟩ (D8.out.skip rfl)
    | some ad =>
      obtain ⟨i0, hi, hz0, hz1, hz2⟩ := info_parts info97
      have HI := hid (And.intro hi (And.intro hz0 (And.intro hz1 hz2)))
      clear hi hz0 hz1 hz2
      go_wp2_with (at_make; refine wpList_make_full _ rfl _ _ 44 rfl (w.heap.size + 3) 97 i0 (.agg #[.string ⟨#[]⟩, .string ⟨#[]⟩, .string ⟨#[]⟩]) 3 Try.underlying44 HI.out.1 HI.out.2.1 HI.out.2.2.1 _ _ _ _ n8 rfl rfl rfl rfl (by rw [HI.out.2.2.2]; omega) (by unfold maxLen; omega) (by have := D8.out.sz; omega) ?_)
      intro w1 hown hgrow
      have HW := hid hown
      have HG := hid hgrow
      have hb1 := hid (grown_blk hgrow D8.out.docCell)
      obtain ⟨y1, y2⟩ := hb1.out.cell 9 (by omega)
      have y3 := hb1.out.frozen 9
      have k8' := hgrow.cell k8 (by simp)
      clear hown hgrow k8 q8
      go_wp2
      refine tloop8 w.heap.size w'.heap.size _ (some ad) n8 c8 ?_ ?_ w rfl ?_ H8.out m8 D8.out.sz ?_ _ ?_ _ ?_ ?_
      · exact (World.cell?_setCell_other _ _ _ _ (by simp)).trans k8'
      · exact World.cell?_setCell_same _ _ _ y2
      · exact (D8.out.bel.grown HG.out D8.out.bel.size (fun k hk => by cases hk)).setCell (by simp) _
      · exact (owns_blk HW.out).setCell _ _ _
      · intro a' w'' hA' hG'
        exact HX.out a' w'' hA' (D8.out.made (by omega) (by simp) HG.out hG')
      · exact ⟨rfl, rfl, rfl, rfl, rfl⟩
      · rfl
  intro a' w'' hA hD
  clear k8 q8 D8
  refine hKK a' w'' ?_
  clear hKK w'
  obtain ⟨w', rfl⟩ : ∃ w', w' = w'' := ⟨_, rfl⟩
  obtain ⟨hs, hdf, h1, h2, h3⟩ := hA
  rw [act_lit 354 a' hs hdf]
  generalize slotOf a' = S9 at *
  rw [lit354 S9, h1, h2, h3]
  clear h1 h2 h3 hs hdf
  have D9 := hid hD
  have k9 : w'.cell? ⟨w.heap.size, 10, none⟩ = some (.slice a9 n9 c9) := hD.boxCell 10
  have q9 := fun (w : World) => run_neq_slice_nil_any (P := Try.prog) w 31 76 a9 n9 c9 0 0 Try.underlying31
  clear hD
  go_upto_if 317 with (fail)
  clear a'
  rename_i K hKK
  suffices hx : ∀ a' w', AT w.heap.size a' → DS w #[.string f, .pointer o, .slice a1 n1 c1, .slice a2 n2 c2, .slice a3 n3 c3, .slice a4 n4 c4, .slice a5 n5 c5, .slice a6 n6 c6, .slice a7 n7 c7, .slice a8 n8 c8, .slice a9 n9 c9] (fun j => [a1, a2, a3, a4, a5, a6, a7, a8, a9].getD j none) (fun j => [n1, n2, n3, n4, n5, n6, n7, n8, n9].getD j 0) 9 w' → K a' w' by
    have HX := hid hx
    clear hx hKK
    cases a9 with
    | none =>
      go_wp2
      exact HX.out _ _ ⟨rfl, rfl, rfl, rfl, rfl⟩ (D9.out.skip rfl)
    | some ad =>
      obtain ⟨i0, hi, hz0, hz1, hz2⟩ := info_parts info99
      have HI := hid (And.intro hi (And.intro hz0 (And.intro hz1 hz2)))
      clear hi hz0 hz1 hz2
      go_wp2_with (at_make; refine wpList_make_full _ rfl _ _ 45 rfl (w.heap.size + 3) 99 i0 (.agg #[.string ⟨#[]⟩, .string ⟨#[]⟩, .string ⟨#[]⟩]) 3 Try.underlying45 HI.out.1 HI.out.2.1 HI.out.2.2.1 _ _ _ _ n9 rfl rfl rfl rfl (by rw [HI.out.2.2.2]; omega) (by unfold maxLen; omega) (by have := D9.out.sz; omega) ?_)
      intro w1 hown hgrow
      have HW := hid hown
      have HG := hid hgrow
      have hb1 := hid (grown_blk hgrow D9.out.docCell)
      obtain ⟨y1, y2⟩ := hb1.out.cell 10 (by omega)
      have y3 := hb1.out.frozen 10
      have k9' := hgrow.cell k9 (by simp)
      clear hown hgrow k9 q9
      go_wp2
      refine tloop9 w.heap.size w'.heap.size _ (some ad) n9 c9 ?_ ?_ w rfl ?_ H9.out m9 D9.out.sz ?_ _ ?_ _ ?_ ?_
      · exact (World.cell?_setCell_other _ _ _ _ (by simp)).trans k9'
      · exact World.cell?_setCell_same _ _ _ y2
      · exact (D9.out.bel.grown HG.out D9.out.bel.size (fun k hk => by cases hk)).setCell (by simp) _
      · exact (owns_blk HW.out).setCell _ _ _
      · intro a' w'' hA' hG'
        exact HX.out a' w'' hA' (D9.out.made (by omega) (by simp) HG.out hG')
      · exact ⟨rfl, rfl, rfl, rfl, rfl⟩
      · rfl
  intro a' w'' hA hD
  clear k9 q9 D9
  refine hKK a' w'' ?_
  clear hKK w'
  obtain ⟨w', rfl⟩ : ∃ w', w' = w'' := ⟨_, rfl⟩
  obtain ⟨hs, hdf, h1, h2, h3⟩ := hA
  rw [act_lit 354 a' hs hdf]
  generalize slotOf a' = S at *
  rw [lit354 S, h1, h2, h3]
  clear h1 h2 h3 hs hdf
  obtain ⟨bel, hsz, _, ⟨rs, r1, r2⟩, cs, d1, d2, d3, d4⟩ := hD
  have hif : (Try.prog.info? 47).map (·.size) = some cs.size := by rw [d2]; exact info47
  have D4 := hid d4
  have BE := hid bel
  clear d4 bel
  go_wp2_with (first | (refine wpList_load_row rfl 47 _ rfl (w.heap.size + 2) rfl 47 cs _ _ d1 Try.underlying47 rfl hif ?_) | (refine wpList_store_row rfl 47 _ _ rfl (w.heap.size + 1) cs rfl rfl 47 rs r1 hif (by omega) d3 ?_))
  refine bodyPost_ret (results_cell_row rfl _ _ (w.heap.size + 1) 47 cs (0, 0) _ rfl (setRow_heap w' _ rs cs 47 (0, 0) r1) Try.underlying47 rfl hif) rfl ⟨cs, rfl, d2, d3, fun j hj => ?_, ?_⟩
  · exact ((D4.out j hj).1 hj).keep (fun k hk _ => setRow_other w' _ k _ (by omega))
  · exact BE.out.trans ⟨rfl, rfl, rfl, by simp, fun k hk => setRow_other w' _ k _ (by omega)⟩
end Go.Proofs.Qxb6613414a
