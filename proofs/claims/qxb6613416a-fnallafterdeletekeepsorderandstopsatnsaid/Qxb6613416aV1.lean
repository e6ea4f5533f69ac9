import Derived.Test.Qxb6613416aD1
import Derived.Test.Qxb6613416aU1
namespace Go.Proofs.Qxb6613416a
open Go.RowKit Go.Maps Go.Shelf

theorem allPost_of' {w W' : World} {n₀ B : Nat} {L : List Ent} {v1 v2 v3 : Value} (h : St n₀ B W' v1 v2 v3 L.length (L.map fun e => .string e.key) L.length (L.map fun e => .string e.text) L.length (L.map fun e => .int .i64 (kindI e))) (hb : Below w.heap.size w W') : AllPost w L (.returned (.tuple #[v1, v2, v3])) W' := by
  obtain ⟨a1, p1, rfl, s1⟩ := row_shape h.r1
  obtain ⟨a2, p2, rfl, s2⟩ := row_shape h.r2
  obtain ⟨a3, p3, rfl, s3⟩ := row_shape h.r3
  refine ⟨a1, a2, a3, p1, p2, p3, rfl, fun k hk => ?_, hb⟩
  obtain ⟨g1, rfl⟩ := s1 (by omega)
  obtain ⟨g2, rfl⟩ := s2 (by omega)
  obtain ⟨g3, rfl⟩ := s3 (by omega)
  refine ⟨g1, g2, g3, rfl, rfl, rfl, ?_, ?_, ?_⟩
  · rw [h.r1.cellAt k (by omega)]; simp [entAt, hk]
  · rw [h.r2.cellAt k (by omega)]; simp [entAt, hk]
  · rw [h.r3.cellAt k (by omega)]; simp [entAt, hk]

def UpRes (w : World) (L : List Ent) (e : Ending) (W' : World) : Prop :=
  ∃ q a1 a2 a3 p1 p2 p3, L.length = q ∧ e = .returned (.tuple #[.slice a1 q p1, .slice a2 q p2, .slice a3 q p3]) ∧
    (∀ k, k < L.length → ∃ g1 g2 g3, a1 = some ⟨g1, 0, none⟩ ∧ a2 = some ⟨g2, 0, none⟩ ∧ a3 = some ⟨g3, 0, none⟩ ∧ W'.cell? ⟨g1, k, none⟩ = some (.string (entAt L k).key) ∧ W'.cell? ⟨g2, k, none⟩ = some (.string (entAt L k).text) ∧ W'.cell? ⟨g3, k, none⟩ = some (.int .i64 (kindI (entAt L k)))) ∧ Below w.heap.size w W'

theorem upTo_any (ob : Nat) (M : List Mem) (m : Int) (w : World) (h : Ready w ob M) : Calls Try.prog 13 #[.pointer (some ⟨ob, 0, none⟩), .int .i64 m] w fun e W' => UpRes w ((ents M).take m.toNat) e W' := by
  refine (callsIn_wide (n := 6)).1 ((upTo_in ob M m w h).mono ?_)
  rintro e W' ⟨v1, v2, v3, rfl, hS, hb⟩
  obtain ⟨a1, a2, a3, p1, p2, p3, he, hc, hb⟩ := allPost_of' hS hb
  exact ⟨_, a1, a2, a3, p1, p2, p3, rfl, he, hc, hb⟩

theorem others_hit {L : List Ent} {key : ByteArray} {k : Nat} (hk : k < L.length) (h : ((entAt L k).key.toList == key.toList) = true) : others (L.take (k + 1)) key = others (L.take k) key := by
  rw [entAt_eq hk] at h
  unfold others
  rw [List.take_succ_eq_append_getElem hk, List.filter_append]
  have : hit key L[k] = true := h
  simp [this]
theorem others_miss {L : List Ent} {key : ByteArray} {k : Nat} (hk : k < L.length) (h : ((entAt L k).key.toList == key.toList) = false) : others (L.take (k + 1)) key = others (L.take k) key ++ [entAt L k] := by
  rw [entAt_eq hk] at h ⊢
  unfold others
  rw [List.take_succ_eq_append_getElem hk, List.filter_append]
  have : hit key L[k] = false := h
  simp [this]
theorem others_length (L : List Ent) (key : ByteArray) : (others L key).length ≤ L.length := List.length_filter_le _ _
theorem others_take_length (L : List Ent) (key : ByteArray) (k : Nat) : (others (L.take k) key).length ≤ L.length := by
  have h1 := others_length (L.take k) key
  have h2 : (L.take k).length ≤ L.length := by simp; omega
  omega

/-- The rest: the row of the entries that are kept. -/
structure RestIs (w3 : World) (R : List Ent) (m g cap : Nat) (wr : World) : Prop where
  len : R.length = m
  own : wr.ownsRow w3.heap.size 41 4 (.slice (some ⟨g, 0, none⟩) m cap) m (flatE R)
  below : Below w3.heap.size w3 wr

theorem RestIs.start {w3 wm : World} {n : Nat} {L : List Ent} {key : ByteArray} (hown : wm.ownsRow w3.heap.size 41 4 (.slice (some ⟨w3.heap.size, 0, none⟩) 0 n) 0 []) (hg : w3.grownBy wm none) : RestIs w3 (others (L.take 0) key) 0 w3.heap.size n wm :=
  ⟨by simp [others], by simpa [others, flatE] using hown, (Below.refl _ _).grown hg (Nat.le_refl _) (fun k hk => by cases hk)⟩

theorem RestIs.snoc {w3 wr w' : World} {R : List Ent} {m g cap g' cap' : Nat} {x : Ent} {o : Obj} (h : RestIs w3 R m g cap wr) (hown : w'.ownsRow w3.heap.size 41 4 (.slice (some ⟨g', 0, none⟩) (m + 1) cap') (m + 1) (flatE R ++ [.string x.key, .string x.text, .bool x.num, .pointer none]))
    (hg : (wr.alloc o).grownBy w' (some g)) : RestIs w3 (R ++ [x]) (m + 1) g' cap' w' :=
  ⟨by simp [h.len], by rw [flatE_snoc]; exact hown, (h.below.alloc h.below.size o).grown hg (by simp; have := h.below.size; omega) (fun k hk => by cases hk; exact (row_block h.own).1)⟩

/-- The four lists, cut at n. -/
theorem agree_cut {w2 w3 W : World} {R : List Ent} {m g cap t q : Nat} {a1 a2 a3 : Option Addr} (hR : RestIs w3 R m g cap W) (hb : Below w2.heap.size w2 w3) (hq : (R.take t).length = q)
    (h : ∀ k, k < (R.take t).length → ∃ g1 g2 g3, a1 = some ⟨g1, 0, none⟩ ∧ a2 = some ⟨g2, 0, none⟩ ∧ a3 = some ⟨g3, 0, none⟩ ∧ w2.cell? ⟨g1, k, none⟩ = some (.string (entAt (R.take t) k).key) ∧ w2.cell? ⟨g2, k, none⟩ = some (.string (entAt (R.take t) k).text) ∧ w2.cell? ⟨g3, k, none⟩ = some (.int .i64 (kindI (entAt (R.take t) k)))) :
    Agree W a1 a2 a3 (some ⟨g, 0, none⟩) q R := by
  intro k hk
  rw [hq] at h
  obtain ⟨g1, g2, g3, e1, e2, e3, q1, q2, q3⟩ := h k hk
  have hk' : k < R.length := by simp at hq; omega
  have he : entAt (R.take t) k = entAt R k := by
    rw [entAt_eq (by rw [hq]; exact hk), entAt_eq hk', List.getElem_take]
  rw [he] at q1 q2 q3
  have hbW : Below w2.heap.size w2 W := hb.trans (hR.below.mono hb.size)
  obtain ⟨r0, r1, r2, _⟩ := flatE_cells R k hk'
  have hm := hR.len
  exact ⟨g1, g2, g3, g, e1, e2, e3, rfl, cell_on hbW q1, cell_on hbW q2, cell_on hbW q3, (hR.own.cellAt _ (by omega)).trans r0, (hR.own.cellAt _ (by omega)).trans r1, (hR.own.cellAt _ (by omega)).trans r2⟩

theorem model_cells {w2 w3 : World} {mn : Nat} {L : List Ent} (hM : ModelIs w2.heap.size w3 mn L) : ∃ a4 c4 N, L.length = N ∧ w3.cell? ⟨mn, 0, none⟩ = some (.slice a4 N c4) ∧ ∀ k, k < N → ∃ g4, a4 = some ⟨g4, 0, none⟩ ∧ w3.cell? ⟨g4, k * 4, none⟩ = some (.string (entAt L k).key) ∧ w3.cell? ⟨g4, k * 4 + 1, none⟩ = some (.string (entAt L k).text) ∧ w3.cell? ⟨g4, k * 4 + 2, none⟩ = some (.bool (entAt L k).num) ∧ w3.cell? ⟨g4, k * 4 + 3, none⟩ = some (.pointer none) := by
  obtain ⟨_, v, hmn, hown⟩ := hM
  obtain ⟨a4, c4, rfl, s4⟩ := row_shape hown
  refine ⟨a4, c4, L.length, rfl, cell_of_one hmn, fun k hk => ?_⟩
  obtain ⟨g4, rfl⟩ := s4 (by omega)
  obtain ⟨r0, r1, r2, r3⟩ := flatE_cells L k hk
  exact ⟨g4, rfl, (hown.cellAt _ (by omega)).trans r0, (hown.cellAt _ (by omega)).trans r1, (hown.cellAt _ (by omega)).trans r2, (hown.cellAt _ (by omega)).trans r3⟩

theorem below_all {S0 : Nat} {W w1 w2 w3 : World} (h0 : W.heap.size ≤ S0) (h1 : Below W.heap.size W w1) (h2 : Below S0 w1 w2) (h3 : Below w2.heap.size w2 w3) : Below W.heap.size W w3 := by
  have h12 := h1.trans (h2.mono h0)
  exact h12.trans (h3.mono h12.size)

set_option maxRecDepth 100000 in
set_option maxHeartbeats 8000000 in
theorem law4 (a : Option Addr) (n c : Nat) (ps : List Pr) (key : ByteArray) (m : Int) (W : World) (h : PairRow W a n ps) (hn : n ≤ maxLen) (hks : ∀ k, k < n → (prAt ps k).key.size ≤ maxLen) (hkey : key.size ≤ maxLen) :
    Calls Try.prog 4 #[.slice a n c, .string key, .int .i64 m] W fun e w' => TruePost W e w' := by
  obtain ⟨i0, hi, hz0, hz1, hz2⟩ := info_parts info41
  have H := hid h
  have HK := hid hks
  have HN := hid hn
  have HKEY := hid hkey
  clear h hks hn hkey
  go_enter Try.func4, Try.ntmps4
  go_wp2_with (go_at_call 11; refine (bytes2 a n c ps key m W H.out HN.out HKEY.out).mono ?_; rintro e W ⟨⟨b, rfl, hb⟩, rfl⟩; have HBB := hid hb; clear hb; cases b)
  · go_ret
    exact ⟨rfl, Below.refl _ _⟩
  · go_ret
    exact ⟨rfl, Below.refl _ _⟩
  · have hn4 : n ≤ 4096 := by omega
    have hk4 : key.size ≤ 1048576 := by omega
    refine (addPairs_any (key.size : Int) a n c ps W H.out (by omega) (by omega) (by omega)).mono ?_
    rintro e W ⟨⟨r, rfl⟩, rfl⟩
    go_wp2_with (first
      | (go_at_call 7; refine (object_any a n c ps W H.out hn4 HK.out).mono ?_; rintro e w1 ⟨S0, ob, M, rfl, hS0, hobj, hents, hheld, hbel1, hex⟩; have HO := hid (And.intro hobj (And.intro hents (And.intro hS0 (And.intro hbel1 hex)))); clear hS0 hobj hents hheld hbel1 hex)
      | (go_at_call 12; obtain ⟨w0, hw0, hb0, hh0, hl0⟩ := HO.out.2.2.2.2; refine (del_any S0 ob M key w0 w1 hw0 hh0 hb0 (by have := H.out.1; omega) HO.out.1 HKEY.out).mono ?_; rintro e w2 ⟨rfl, M2, he2, hr2, hb2⟩; have HD := hid (And.intro he2 (And.intro hr2 hb2)); clear hw0 hb0 hh0 hl0 he2 hr2 hb2)
      | (go_at_call 13; refine (upTo_any ob M2 m w2 HD.out.2.1).mono ?_; rintro e w3 ⟨q, a1, a2, a3, p1, p2, p3, hq, rfl, hcells, hbel3⟩; have HC := hid (And.intro hcells hbel3); have HQ := hid hq; clear hcells hbel3 hq)
      | (go_at_call 9; refine (modelOf_any a n c ps w3 (H.out.below (below_all HO.out.2.2.1 HO.out.2.2.2.1 HD.out.2.2 HC.out.2)) hn4).mono ?_; rintro e w4 ⟨mn, rfl, hmod, hbel4⟩; obtain ⟨a4, c4, N, hNL, c0, hcell4⟩ := model_cells hmod; have hN4 : N ≤ 4096 := (by have := model_length ps; have := H.out.1; omega); have HMD := hid (And.intro hcell4 (And.intro hbel4 hNL)); clear hmod hbel4 hcell4 hNL)
      | (at_make; refine wpList_make_own _ rfl _ _ 34 rfl w4.heap.size 41 i0 _ 4 Try.underlying34 hi hz0 hz1 .i64 .i64 _ N rfl rfl (by omega) (by rw [hz2]; omega) (by unfold maxLen; omega) (Nat.le_refl _) ?_; intro wm hown hg; have HOWN := hid hown; have HG := hid hg; clear hown hg)
      | go_in)
    · go_ret
      exact ⟨rfl, Below.refl _ _⟩
    · go_loopw [13, 12] (fun i v wr => ∃ k t g cap : Nat, k ≤ N ∧ t ≤ 4096 ∧ i = .int .i64 k ∧ v = .slice (some ⟨g, 0, none⟩) t cap ∧ Hid (RestIs w4 (others ((model ps).take k) key) t g cap wr)) (fun i _ _ => N - (intOf i).toNat)
      case atStart => exact ⟨0, 0, _, _, Nat.zero_le _, Nat.zero_le _, rfl, rfl, RestIs.start HOWN.out HG.out⟩
      case round =>
        obtain ⟨k, t, g, cap, hk, ht, rfl, rfl, HR⟩ := hrel
        have c1 := cell_on HR.out.below c0
        by_cases hlt : k < N
        · obtain ⟨g4, rfl, q0, q1, q2, q3⟩ := HMD.out.1 k hlt
          have q0 := cell_on HR.out.below q0
          have q1 := cell_on HR.out.below q1
          have q2 := cell_on HR.out.below q2
          have q3 := cell_on HR.out.below q3
          have hkl : k < (model ps).length := by rw [HMD.out.2.2]; exact hlt
          obtain ⟨x, hx⟩ : ∃ x, x = entAt (model ps) k := ⟨_, rfl⟩
          rw [← hx] at q0 q1 q2
          have HX := hid hx
          clear hx
          obtain ⟨xk, xt, xn⟩ := x
          simp only at q0 q1 q2
          cases heq : xk.toList == key.toList
          case true =>
            go_wp2
            go_roundw
            case rel => exact ⟨k + 1, t, g, cap, by omega, ht, by go_num, rfl, by rw [others_hit hkl (by rw [← HX.out]; exact heq)]; exact HR.out⟩
            case measure => simp [intOf]; omega
          case false =>
            have ht2 : t + 1 ≤ 4096 := by
              have h1 := HR.out.len
              have h2 := others_length ((model ps).take k) key
              rw [List.length_take_of_le (by omega)] at h2
              omega
            go_wp2_with (first
              | (at_builtin; refine wpList_append_own _ rfl (.tmp 72) (.tmp 80) 34 rfl w4.heap.size 41 i0 _ 4 48 Try.underlying34 hi hz0 hz1 hz2 rfl (by decide) _ _ _ rfl (HR.out.own.alloc _) ⟨wr.heap.size, 0, none⟩ 1 1 [.string xk, .string xt, .bool xn, .pointer none] rfl rfl (ent_new wr xk xt xn) (ent_one xk xt xn) (by unfold maxLen; omega) (by omega) (by have := HR.out.below.size; simp; omega) ?_; intro v' w5 hown' hgrow _; obtain ⟨g5, cap5, rfl⟩ := ownsRow_succ hown'; have HS := hid (HR.out.snoc (x := ⟨xk, xt, xn⟩) hown' hgrow); clear hown' hgrow)
              | go_in)
            go_roundw
            case rel => exact ⟨k + 1, t + 1, g5, cap5, by omega, ht2, by go_num, rfl, by rw [others_miss hkl (by rw [← HX.out]; exact heq), ← HX.out]; exact HS.out⟩
            case measure => simp [intOf]; omega
        · obtain rfl : k = N := by omega
          have hR : RestIs w4 (others (model ps) key) t g cap wr := by
            have := HR.out
            rwa [List.take_of_length_le (by rw [HMD.out.2.2]; exact Nat.le_refl _)] at this
          have hE : ents M2 = others (model ps) key := by rw [HD.out.1, HO.out.2.1]
          have hQ := HQ.out
          have hC := HC.out.1
          rw [hE] at hQ hC
          have HAG := hid (agree_cut hR HMD.out.2.1 hQ hC)
          have hqt : q = min m.toNat t := by rw [← hQ, List.length_take, hR.len]
          have HBW : Hid (Below W.heap.size W wr) := by
            have h3 := below_all HO.out.2.2.1 HO.out.2.2.2.1 HD.out.2.2 HC.out.2
            have h4 := h3.trans (HMD.out.2.1.mono h3.size)
            exact h4.trans (hR.below.mono h4.size)
          clear hR hE hQ hC HR HMD HC HQ HD HO HOWN HG
          have HLE : Hid (q ≤ t) := by have : q ≤ t := (by omega); exact this
          by_cases hm1 : m < (t : Int)
          · by_cases hm0 : m < 0
            · obtain rfl : q = 0 := by omega
              clear hqt
              go_wp2_with (go_at_call 10; refine (lists_any a1 a2 a3 (some ⟨g, 0, none⟩) 0 t p1 p2 p3 cap (others (model ps) key) wr HLE.out ht HAG.out).mono ?_; rintro e w6 ⟨rfl, hb⟩; have HB6 := hid hb; clear hb)
              go_ret
              exact ⟨rfl, HBW.out.trans (HB6.out.mono HBW.out.size)⟩
            · obtain rfl : m = (q : Int) := by omega
              clear hqt
              go_wp2_with (go_at_call 10; refine (lists_any a1 a2 a3 (some ⟨g, 0, none⟩) q t p1 p2 p3 cap (others (model ps) key) wr HLE.out ht HAG.out).mono ?_; rintro e w6 ⟨rfl, hb⟩; have HB6 := hid hb; clear hb)
              go_ret
              exact ⟨rfl, HBW.out.trans (HB6.out.mono HBW.out.size)⟩
          · have hm2 : (t : Int) ≤ m := by omega
            obtain rfl : q = t := by omega
            clear hqt
            go_wp2_with (go_at_call 10; refine (lists_any a1 a2 a3 (some ⟨g, 0, none⟩) q q p1 p2 p3 cap (others (model ps) key) wr HLE.out ht HAG.out).mono ?_; rintro e w6 ⟨rfl, hb⟩; have HB6 := hid hb; clear hb)
            go_ret
            exact ⟨rfl, HBW.out.trans (HB6.out.mono HBW.out.size)⟩
  · go_ret
    exact ⟨rfl, Below.refl _ _⟩
end Go.Proofs.Qxb6613416a
