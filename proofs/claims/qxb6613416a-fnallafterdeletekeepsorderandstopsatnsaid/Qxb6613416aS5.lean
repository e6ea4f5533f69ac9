import Derived.Test.Qxb6613416aS4
namespace Go.Proofs.Qxb6613416a
open Go.RowKit Go.Maps Go.Shelf

theorem ready_of {S0 : Nat} {w : World} {ob : Nat} {M : List Mem} (h : ObjIs S0 w ob M) (hh : ∀ x ∈ M, Held w x.1 (.iface x.2.1 x.2.2)) (hl : M.length ≤ 4096) : Ready w ob M := by
  obtain ⟨_, _, _, r, cap, mi, hob, hown, _⟩ := h
  refine ⟨hl, ⟨r, cap, ob_cell0 hob, fun k hk => ?_⟩, fun k hk => ?_⟩
  · rw [hown.cellAt _ (by omega), hown.cellAt _ (by omega)]
    exact ⟨flat_key M k hk, flat_val M k hk⟩
  · rw [memAt_eq hk]
    exact hh _ (List.getElem_mem _)

def AllPost (w : World) (L : List Ent) (e : Ending) (W' : World) : Prop :=
  ∃ a1 a2 a3 p1 p2 p3, e = .returned (.tuple #[.slice a1 L.length p1, .slice a2 L.length p2, .slice a3 L.length p3]) ∧
    (∀ k, k < L.length → ∃ g1 g2 g3, a1 = some ⟨g1, 0, none⟩ ∧ a2 = some ⟨g2, 0, none⟩ ∧ a3 = some ⟨g3, 0, none⟩ ∧ W'.cell? ⟨g1, k, none⟩ = some (.string (entAt L k).key) ∧ W'.cell? ⟨g2, k, none⟩ = some (.string (entAt L k).text) ∧ W'.cell? ⟨g3, k, none⟩ = some (.int .i64 (kindI (entAt L k)))) ∧ Below w.heap.size w W'

theorem allPost_of {w W' : World} {L : List Ent} {v1 v2 v3 : Value} (h : St w.heap.size w.heap.size W' v1 v2 v3 L.length (L.map fun e => .string e.key) L.length (L.map fun e => .string e.text) L.length (L.map fun e => .int .i64 (kindI e))) (hb : Below w.heap.size w W') : AllPost w L (.returned (.tuple #[v1, v2, v3])) W' := by
  obtain ⟨a1, p1, rfl, s1⟩ := row_shape h.r1
  obtain ⟨a2, p2, rfl, s2⟩ := row_shape h.r2
  obtain ⟨a3, p3, rfl, s3⟩ := row_shape h.r3
  refine ⟨a1, a2, a3, p1, p2, p3, rfl, fun k hk => ?_, hb⟩
  obtain ⟨g1, rfl⟩ := s1 (by omega)
  obtain ⟨g2, rfl⟩ := s2 (by omega)
  obtain ⟨g3, rfl⟩ := s3 (by omega)
  refine ⟨g1, g2, g3, rfl, rfl, rfl, ?_, ?_, ?_⟩
  · rw [h.r1.cellAt k (by omega)]; simp [entAt, hk]
  · rw [h.r2.cellAt k (by omega)]; simp [entAt, hk]
  · rw [h.r3.cellAt k (by omega)]; simp [entAt, hk]

theorem zzAll_any (ob : Nat) (M : List Mem) (w : World) (h : Ready w ob M) : Calls Try.prog 8 #[.pointer (some ⟨ob, 0, none⟩)] w fun e W' => AllPost w (ents M) e W' := by
  refine (callsIn_wide (n := 6)).1 ((zzAll_in ob M w h).mono ?_)
  rintro e W' ⟨v1, v2, v3, rfl, hS, hb⟩
  rw [← ents_length M] at hS
  exact allPost_of hS hb

/-- The model's slice, and the four lists. -/
theorem agree_of {w2 w3 : World} {S0 mn : Nat} {L : List Ent} {a1 a2 a3 : Option Addr} (hM : ModelIs S0 w3 mn L) (hb : Below w2.heap.size w2 w3)
    (h : ∀ k, k < L.length → ∃ g1 g2 g3, a1 = some ⟨g1, 0, none⟩ ∧ a2 = some ⟨g2, 0, none⟩ ∧ a3 = some ⟨g3, 0, none⟩ ∧ w2.cell? ⟨g1, k, none⟩ = some (.string (entAt L k).key) ∧ w2.cell? ⟨g2, k, none⟩ = some (.string (entAt L k).text) ∧ w2.cell? ⟨g3, k, none⟩ = some (.int .i64 (kindI (entAt L k)))) :
    ∃ a4 c4, w3.cell? ⟨mn, 0, none⟩ = some (.slice a4 L.length c4) ∧ Agree w3 a1 a2 a3 a4 L.length L := by
  obtain ⟨_, v, hmn, hown⟩ := hM
  obtain ⟨a4, c4, rfl, s4⟩ := row_shape hown
  refine ⟨a4, c4, cell_of_one hmn, fun k hk => ?_⟩
  obtain ⟨g1, g2, g3, e1, e2, e3, q1, q2, q3⟩ := h k hk
  obtain ⟨g4, rfl⟩ := s4 (by omega)
  obtain ⟨r0, r1, r2, _⟩ := flatE_cells L k hk
  exact ⟨g1, g2, g3, g4, e1, e2, e3, rfl, cell_on hb q1, cell_on hb q2, cell_on hb q3, (hown.cellAt _ (by omega)).trans r0, (hown.cellAt _ (by omega)).trans r1, (hown.cellAt _ (by omega)).trans r2⟩

def TruePost (W : World) (e : Ending) (w' : World) : Prop := e = .returned (.bool true) ∧ Below W.heap.size W w'

set_option maxHeartbeats 8000000 in
theorem law3 (a : Option Addr) (n c : Nat) (ps : List Pr) (W : World) (h : PairRow W a n ps) (hn : n ≤ maxLen) (hks : ∀ k, k < n → (prAt ps k).key.size ≤ maxLen) :
    Calls Try.prog 3 #[.slice a n c] W fun e w' => TruePost W e w' := by
  have H := hid h
  have HK := hid hks
  have HN := hid hn
  clear h hks hn
  go_enter Try.func3, Try.ntmps3
  go_wp2_with (go_at_call 5; refine (bytes1 a n c ps W H.out HN.out).mono ?_; rintro e W ⟨⟨b, rfl, hb⟩, rfl⟩; have HBB := hid hb; clear hb; cases b)
  · go_ret
    exact ⟨rfl, Below.refl _ _⟩
  · go_ret
    exact ⟨rfl, Below.refl _ _⟩
  · have hn4 : n ≤ 4096 := by omega
    refine (addPairs_any 0 a n c ps W H.out (by omega) (by omega) (by omega)).mono ?_
    rintro e W ⟨⟨r, rfl⟩, rfl⟩
    go_wp2_with (first
      | (go_at_call 7; refine (object_any a n c ps W H.out hn4 HK.out).mono ?_; rintro e w1 ⟨S0, ob, M, rfl, hS0, hobj, hents, hheld, hbel1, hex⟩; have HO := hid (And.intro hobj (And.intro hents (And.intro hheld (And.intro hbel1 hex)))); clear hS0 hobj hents hheld hbel1 hex)
      | (go_at_call 8; refine (zzAll_any ob M w1 (ready_of HO.out.1 HO.out.2.2.1 (by obtain ⟨_, _, _, _, hl⟩ := HO.out.2.2.2.2; have := H.out.1; omega))).mono ?_; rintro e w2 ⟨a1, a2, a3, p1, p2, p3, rfl, hcells, hbel2⟩; have HC := hid (And.intro hcells hbel2); clear hcells hbel2)
      | (go_at_call 9; refine (modelOf_any a n c ps w2 (H.out.below (HO.out.2.2.2.1.trans (HC.out.2.mono HO.out.2.2.2.1.size))) hn4).mono ?_; rintro e w3 ⟨mn, rfl, hmod, hbel3⟩; have HMD := hid (And.intro hmod hbel3); clear hmod hbel3))
    · go_ret
      exact ⟨rfl, Below.refl _ _⟩
    · have hlen : (model ps).length ≤ 4096 := by have := model_length ps; have := H.out.1; omega
      obtain ⟨a4, c4, c0, hag⟩ := agree_of HMD.out.1 HMD.out.2 (by have := HC.out.1; rw [HO.out.2.1] at this; exact this)
      have hel : (ents M).length = (model ps).length := by rw [HO.out.2.1]
      rw [hel]
      have HAG : Hid (Agree w3.drew a1 a2 a3 a4 (model ps).length (model ps)) := hag
      generalize (model ps).length = m at *
      clear hag hel
      go_region_with (go_at_call 10; refine (lists_any a1 a2 a3 a4 m m p1 p2 p3 c4 (model ps) w3.drew (Nat.le_refl _) hlen HAG.out).mono ?_; rintro e w4 ⟨rfl, hb⟩; have HB4 := hid hb; clear hb)
      all_goals
        go_wp2
        go_ret
        have hb1 := HO.out.2.2.2.1
        have hb2 := HC.out.2
        have hb3 := HMD.out.2
        have hb4 : Below w3.heap.size w3 w4 := (Below.refl _ _).drew.trans HB4.out
        have s12 := hb1.trans (hb2.mono hb1.size)
        have s13 := s12.trans (hb3.mono s12.size)
        exact ⟨rfl, s13.trans (hb4.mono s13.size)⟩
end Go.Proofs.Qxb6613416a
