import Derived.Test.Qxb6613414aM1
namespace Go.Proofs.Qxb6613414a
open Go.RowKit Go.Maps

theorem DocOk.below {W W' : World} {f : ByteArray} {o : Option Addr} {a1 a2 a3 a4 a5 a6 a7 a8 a9 : Option Addr} {n1 n2 n3 n4 n5 n6 n7 n8 n9 c1 c2 c3 c4 c5 c6 c7 c8 c9 : Nat} (h : DocOk W f o a1 a2 a3 a4 a5 a6 a7 a8 a9 n1 n2 n3 n4 n5 n6 n7 n8 n9 c1 c2 c3 c4 c5 c6 c7 c8 c9) (hb : Below W.heap.size W W') : DocOk W' f o a1 a2 a3 a4 a5 a6 a7 a8 a9 n1 n2 n3 n4 n5 n6 n7 n8 n9 c1 c2 c3 c4 c5 c6 c7 c8 c9 := by
  obtain ⟨h0, h0', ⟨h1, l1, z1⟩, ⟨h2, l2, z2⟩, ⟨h3, l3, z3⟩, ⟨h4, l4, z4⟩, ⟨h5, l5, z5⟩, ⟨h6, l6, z6⟩, ⟨h7, l7, z7⟩, ⟨h8, l8, z8⟩, ⟨h9, l9, z9⟩⟩ := h
  exact ⟨h0, h0'.below hb, ⟨h1.below hb, l1, z1⟩, ⟨h2.below hb, l2, z2⟩, ⟨h3.below hb, l3, z3⟩, ⟨h4.below hb, l4, z4⟩, ⟨h5.below hb, l5, z5⟩, ⟨h6.below hb, l6, z6⟩, ⟨h7.below hb, l7, z7⟩, ⟨h8.below hb, l8, z8⟩, ⟨h9.below hb, l9, z9⟩⟩

theorem info33 : (Try.prog.info? 33).map (·.size) = some 11 := by kernel_rfl
theorem zero3 (w : World) : (zeroValue 3).run Try.prog w = .ok (.int .i64 0) w := by kernel_rfl

theorem setRow_new (w : World) (old cells : Array Value) (t : TypeId) : (w.alloc (.cells old t)).setRow w.heap.size cells = w.alloc (.cells cells t) := by
  unfold World.setRow World.alloc
  simp only [World.mk.injEq, and_true]
  apply Array.ext
  · simp
  · intro i h1 h2
    simp only [Array.getElem_modify, Array.getElem_push]
    by_cases h : w.heap.size = i
    · subst h; simp
    · have : i < w.heap.size := by simp at h2; omega
      simp [h, this]
theorem wpList_store_new {P : Program} {ops : Array Oper} {rest : List Oper} {o : Oper} {a : Act} {w : World} {Q : Exit → Act → World → Prop} (hgd : o.guard = none) (ty : TypeId) (x y : Operand) (ho : o.op = .store ty x y)
    (cells : Array Value) (t : TypeId) (old : Array Value) (hx : a.eval x = .pointer (some ⟨w.heap.size, 0, none⟩)) (hy : a.eval y = .agg cells)
    (hi : (P.info? ty).map (·.size) = some cells.size)
    (hold : old.size = cells.size) (h1 : cells.all (·.oneCell') = true) (hdst : o.dst = none)
    (h : wpList P ops Q rest a (w.alloc (.cells cells t))) : wpList P ops Q (o :: rest) a (w.alloc (.cells old t)) :=
  wpList_store_row hgd ty x y ho w.heap.size cells hx hy t old (heap_alloc_new w _) hi hold h1 (by rw [setRow_new, hdst]; exact h)

set_option maxRecDepth 1000000 in
theorem lit97 (T : Nat → Value) : ((List.range 97).map T).toArray = #[T 0, T 1, T 2, T 3, T 4, T 5, T 6, T 7, T 8, T 9, T 10, T 11, T 12, T 13, T 14, T 15, T 16, T 17, T 18, T 19, T 20, T 21, T 22, T 23, T 24, T 25, T 26, T 27, T 28, T 29, T 30, T 31, T 32, T 33, T 34, T 35, T 36, T 37, T 38, T 39, T 40, T 41, T 42, T 43, T 44, T 45, T 46, T 47, T 48, T 49, T 50, T 51, T 52, T 53, T 54, T 55, T 56, T 57, T 58, T 59, T 60, T 61, T 62, T 63, T 64, T 65, T 66, T 67, T 68, T 69, T 70, T 71, T 72, T 73, T 74, T 75, T 76, T 77, T 78, T 79, T 80, T 81, T 82, T 83, T 84, T 85, T 86, T 87, T 88, T 89, T 90, T 91, T 92, T 93, T 94, T 95, T 96] := rfl

/-- B and V with list k one longer. -/
def updB (B : Nat → Bool) (k j : Nat) : Bool := if j = k then true else B j
def updV (V : Nat → Nat) (k j : Nat) : Nat := if j = k then V k + 1 else V j

theorem cnt_upd (B : Nat → Bool) (k : Nat) : ∀ m, cnt (updB B k) m = cnt B m + (if k < m ∧ B k = false then 1 else 0)
  | 0 => by simp [cnt]
  | m + 1 => by
    simp only [cnt, cnt_upd B k m]
    by_cases h : m = k
    · subst h
      cases hb : B m <;> simp [updB]
    · have e : updB B k m = B m := by simp [updB, h]
      have e2 : (k < m + 1) ↔ (k < m) := by omega
      rw [e]
      simp only [e2]
      omega
theorem cnt_le (B : Nat → Bool) : ∀ m, cnt B m ≤ m
  | 0 => Nat.le_refl _
  | m + 1 => by
    have := cnt_le B m
    simp only [cnt]
    split <;> omega

theorem MapIs.at {D : DataW Unit} {B : Nat → Bool} {V : Nat → Nat} (h : MapIs D B V 9) (h0 : ∀ j, j < 9 → B j = false → V j = 0) (j : Nat) (hj : j < 9) :
    Maps.has D (nm j) = B j ∧ D.atKey (nm j) (.lit (.int .i64 0)) = .lit (.int .i64 ((V j : Nat) : Int)) := by
  obtain ⟨h1, h2⟩ := h.2.1 j hj
  have e : decide (j < 9) = true := by simp [hj]
  rw [e, Bool.true_and] at h1 h2
  refine ⟨h1, ?_⟩
  rw [h2]
  cases hb : B j with
  | true => simp
  | false => simp [h0 j hj hb]

theorem key_nm (j : Nat) (hj : j < 9) : keyOf Try.prog 9 (.string ⟨(nmB j).toArray⟩) = some (nm j) := by
  have hl : (nmB j).length ≤ 20 := by
    match j, hj with
    | 0, _ => decide
    | 1, _ => decide
    | 2, _ => decide
    | 3, _ => decide
    | 4, _ => decide
    | 5, _ => decide
    | 6, _ => decide
    | 7, _ => decide
    | 8, _ => decide
    | k + 9, hk => omega
  have h := WideMaps.keyOf_string_mk (P := Try.prog) (k := 9) Try.underlying9 (s := ⟨(nmB j).toArray⟩) (by unfold maxLen; show (nmB j).toArray.size ≤ _; simp; omega)
  rw [h]
  rfl

/-- The last loop's relation. -/
def IL (k mb1 mb2 vk : Nat) (W : World) (a : Act) (w : World) : Prop :=
  (a.tmps.size = 97 ∧ a.defers = [] ∧ slotOf a 1 = .int .i64 k ∧ slotOf a 6 = .map (some mb1) ∧ slotOf a 8 = .map (some mb2) ∧ slotOf a 10 = .int .i64 (vk : Int)) ∧ (∃ i : Nat, i ≤ 9 ∧ slotOf a 12 = .int .i64 i) ∧ w = W
theorem IL.step {k mb1 mb2 vk i : Nat} {W : World} {a : Act} (hi : i < 9) (h1 : a.tmps.size = 97) (h2 : a.defers = []) (h3 : slotOf a 1 = .int .i64 k) (h4 : slotOf a 6 = .map (some mb1)) (h5 : slotOf a 8 = .map (some mb2)) (h6 : slotOf a 10 = .int .i64 (vk : Int))
    (hs : slotOf a 12 = .int .i64 (i + 1)) : IL k mb1 mb2 vk W a W ∧ MU 9 12 a W < 9 - i := by
  refine ⟨⟨⟨h1, h2, h3, h4, h5, h6⟩, ⟨i + 1, hi, by rw [hs]; rfl⟩, rfl⟩, ?_⟩
  unfold MU
  rw [hs]
  simp [intOf]
  omega

theorem updV_le {V : Nat → Nat} {k : Nat} (hk : k < 9) (h : ∀ j, j < 9 → V j ≤ 1048576) : ∀ j, j < 9 → updV V k j ≤ 1048577 := by
  intro j hj
  have h1 := h k hk
  have h2 := h j hj
  unfold updV
  split <;> omega

/-! ### The last loop: both maps are asked for every name -/
set_option maxHeartbeats 4000000 in
set_option maxRecDepth 100000 in
theorem last_loop (mb1 mb2 : Nat) (D1 D2 : DataW Unit) (B : Nat → Bool) (V : Nat → Nat) (k : Nat) (hk : k < 9) (W : World) (o1 : Own W mb1 9 D1) (o2 : Own W mb2 9 D2) (M1 : MapIs D1 B V 9) (M2 : MapIs D2 (updB B k) (updV V k) 9)
    (h0 : ∀ j, j < 9 → B j = false → V j = 0) (hV : ∀ j, j < 9 → V j ≤ 1048576)
    (Q0 : Exit → Act → World → Prop) (hx : ∀ a', a'.defers = [] → a'.tmps.size = 97 → Q0 (.exit 0) a' W)
    (a : Act) (hs : a.tmps.size = 97) (hdf : a.defers = []) (s1 : slotOf a 1 = .int .i64 k) (s6 : slotOf a 6 = .map (some mb1)) (s8 : slotOf a 8 = .map (some mb2)) (s10 : slotOf a 10 = .int .i64 ((V k : Nat) : Int)) (s12 : slotOf a 12 = .int .i64 0) :
    Code.wp Try.prog (Code.loop (sel Try.f3.body 0)) Q0 a W := by
  refine wp_loop (IL k mb1 mb2 (V k) W) (MU 9 12) ⟨⟨hs, hdf, s1, s6, s8, s10⟩, ⟨0, by omega, s12⟩, rfl⟩ ?_
  clear hs hdf s1 s6 s8 s10 s12 a
  intro a w' hI
  obtain ⟨⟨hs, hdf, s1, s6, s8, s10⟩, ⟨i, hi, s12⟩, rfl⟩ := hI
  rw [MU_at s12]
  have HX := hid hx
  have O1 := hid o1
  have O2 := hid o2
  have P1 := hid M1
  have P2 := hid M2
  have Z0 := hid h0
  have hVk := hV k hk
  rw [act_lit 97 a hs hdf]
  generalize slotOf a = S at *
  rw [lit97 S, s1, s6, s8, s10, s12]
  conv => arg 2; whnf
  rcases Nat.lt_or_ge i 9 with hi9 | hge
  · have hVi := hV i hi9
    have hkey := hid (key_nm i hi9)
    have A1 := hid (P1.out.at Z0.out i hi9)
    have A2 := hid (P2.out.at (fun j hj hb => by
      unfold updB at hb; unfold updV
      split at hb
      · cases hb
      · rename_i hne; rw [if_neg hne]; exact Z0.out j hj hb) i hi9)
    have hh1 := A1.out.1
    have hh2 := A2.out.1
    clear hs hdf s1 s6 s8 s10 s12 o1 o2 M1 M2 h0 hV hx
    by_cases hik : i = k
    · subst hik
      have e0 : ((i : Int) == (i : Int)) = true := by simp
      rw [show updB B i i = true from by simp [updB]] at hh2
      go_wp2_with (first
        | (go_at_call 10; refine (listName_any i hi9 _).mono ?_; rintro e w' ⟨rfl, rfl⟩)
        | (at_lookup; refine wpList_lookup_own_ok_int _ rfl _ _ 49 rfl 9 3 .i64 law9 Try.underlying49 Try.underlying3 (zero3 _) mb1 9 D1 rfl O1.out _ (nm i) rfl hkey.out ?_; intro c hat hwc; obtain rfl : c = ((V i : Nat) : Int) := (by rw [A1.out.2] at hat; simpa using hat.symm); clear hat hwc)
        | (at_lookup; refine wpList_lookup_own_ok_int _ rfl _ _ 49 rfl 9 3 .i64 law9 Try.underlying49 Try.underlying3 (zero3 _) mb2 9 D2 rfl O2.out _ (nm i) rfl hkey.out ?_; intro c hat hwc; obtain rfl : c = ((V i : Nat) : Int) + 1 := (by rw [A2.out.2] at hat; simpa [updV] using hat.symm); clear hat hwc))
      exact IL.step hi9 rfl rfl rfl rfl rfl rfl rfl
    · have e0 : ((i : Int) == (k : Int)) = false := by simp; omega
      rw [show updB B k i = B i from by simp [updB, hik]] at hh2
      have HIK := hid hik
      clear hik
      go_wp2_with (first
        | (go_at_call 10; refine (listName_any i hi9 _).mono ?_; rintro e w' ⟨rfl, rfl⟩)
        | (at_lookup; refine wpList_lookup_own_ok_int _ rfl _ _ 49 rfl 9 3 .i64 law9 Try.underlying49 Try.underlying3 (zero3 _) mb1 9 D1 rfl O1.out _ (nm i) rfl hkey.out ?_; intro c hat hwc; obtain rfl : c = ((V i : Nat) : Int) := (by rw [A1.out.2] at hat; simpa using hat.symm); clear hat hwc)
        | (at_lookup; refine wpList_lookup_own_ok_int _ rfl _ _ 49 rfl 9 3 .i64 law9 Try.underlying49 Try.underlying3 (zero3 _) mb2 9 D2 rfl O2.out _ (nm i) rfl hkey.out ?_; intro c hat hwc; obtain rfl : c = ((V i : Nat) : Int) := (by rw [A2.out.2] at hat; simpa [updV, HIK.out] using hat.symm); clear hat hwc))
      exact IL.step hi9 rfl rfl rfl rfl rfl rfl rfl
  · have hge' : ¬ i < 9 := by omega
    clear hs hdf s1 s6 s8 s10 s12 o1 o2 M1 M2 h0 hV hx
    go_wp2
    exact HX.out _ rfl rfl

/-- What one toDoc, laid in a block, gives Counts to read. -/
theorem doc_cells {w2 w3 : World} {A : Nat → Option Addr} {N : Nat → Nat} {cs : Array Value} (z1 : cs.size = 11) (L : ∀ j, j < 9 → LOk (w2.heap.size + 3) w3 (A j) (N j) (elemOf j) (cellsOf j) (cs.getD (j + 2) undef)) (hA : ∀ j, j < 9 → A j = none → N j = 0) (hN : ∀ j, j < 9 → N j ≤ 1048576) :
    ∀ j, j < 9 → (w3.alloc (.cells cs 47)).cell? ⟨w3.heap.size, j + 2, none⟩ = some (.slice (addrOf (cs.getD (j + 2) undef)) (N j) (capOf (cs.getD (j + 2) undef))) := by
  intro j hj
  have h := ((L j hj).form (hA j hj) (hN j hj)).1
  rw [← h]
  refine (cell_of_row _ _ (j + 2) cs 47 (0, 0) (heap_alloc_new w3 _)).trans ?_
  rw [Array.getD_eq_getD_getElem?, Array.getElem?_eq_getElem (by omega)]
  rfl

set_option maxHeartbeats 8000000 in
set_option maxRecDepth 100000 in
theorem main_walk (f : ByteArray) (o : Option Addr) (a1 a2 a3 a4 a5 a6 a7 a8 a9 : Option Addr) (n1 n2 n3 n4 n5 n6 n7 n8 n9 c1 c2 c3 c4 c5 c6 c7 c8 c9 : Nat) (k : Int) (w : World) (hdoc : DocOk w f o a1 a2 a3 a4 a5 a6 a7 a8 a9 n1 n2 n3 n4 n5 n6 n7 n8 n9 c1 c2 c3 c4 c5 c6 c7 c8 c9) :
    Calls Try.prog 3 #[.agg #[.string f, .pointer o, .slice a1 n1 c1, .slice a2 n2 c2, .slice a3 n3 c3, .slice a4 n4 c4, .slice a5 n5 c5, .slice a6 n6 c6, .slice a7 n7 c7, .slice a8 n8 c8, .slice a9 n9 c9], .int .i64 k] w fun e w' => e = .returned (.bool true) ∧ Below w.heap.size w w' := by
  have HDOC := hid hdoc
  have hN0 : Hid (∀ j, j < 9 → (fun j => [a1, a2, a3, a4, a5, a6, a7, a8, a9].getD j none) j = none → (fun j => [n1, n2, n3, n4, n5, n6, n7, n8, n9].getD j 0) j = 0) := hid (by
    obtain ⟨h0, h0', ⟨h1, l1, z1⟩, ⟨h2, l2, z2⟩, ⟨h3, l3, z3⟩, ⟨h4, l4, z4⟩, ⟨h5, l5, z5⟩, ⟨h6, l6, z6⟩, ⟨h7, l7, z7⟩, ⟨h8, l8, z8⟩, ⟨h9, l9, z9⟩⟩ := hdoc
    intro j hj
    match j, hj with
    | 0, _ => exact fun h => (z1 h).1
    | 1, _ => exact fun h => (z2 h).1
    | 2, _ => exact fun h => (z3 h).1
    | 3, _ => exact fun h => (z4 h).1
    | 4, _ => exact fun h => (z5 h).1
    | 5, _ => exact fun h => (z6 h).1
    | 6, _ => exact fun h => (z7 h).1
    | 7, _ => exact fun h => (z8 h).1
    | 8, _ => exact fun h => (z9 h).1
    | j + 9, hj => omega)
  clear hdoc
  have hB0 := hid ((Below.refl w.heap.size w).alloc (Nat.le_refl _) (.cells #[.string f, .pointer o, .slice a1 n1 c1, .slice a2 n2 c2, .slice a3 n3 c3, .slice a4 n4 c4, .slice a5 n5 c5, .slice a6 n6 c6, .slice a7 n7 c7, .slice a8 n8 c8, .slice a9 n9 c9] 33))
  obtain ⟨W0, hW0⟩ : ∃ W0, w.alloc (.cells #[.string f, .pointer o, .slice a1 n1 c1, .slice a2 n2 c2, .slice a3 n3 c3, .slice a4 n4 c4, .slice a5 n5 c5, .slice a6 n6 c6, .slice a7 n7 c7, .slice a8 n8 c8, .slice a9 n9 c9] 33) = W0 := ⟨_, rfl⟩
  have HW0 := hid hW0
  have hz0 : Hid (W0.heap.size = w.heap.size + 1) := hid (by rw [← hW0]; simp)
  have hbx : Hid (W0.heap[w.heap.size]? = some (.cells #[.string f, .pointer o, .slice a1 n1 c1, .slice a2 n2 c2, .slice a3 n3 c3, .slice a4 n4 c4, .slice a5 n5 c5, .slice a6 n6 c6, .slice a7 n7 c7, .slice a8 n8 c8, .slice a9 n9 c9] 33 (0, 0))) := hid (by rw [← hW0]; exact heap_alloc_new w _)
  clear hW0
  go_enter Try.func3, Try.ntmps3
  go_wp2_with fail
  rw [HW0.out]
  rw [HW0.out] at hB0
  refine (bytes_any f o a1 a2 a3 a4 a5 a6 a7 a8 a9 n1 n2 n3 n4 n5 n6 n7 n8 n9 c1 c2 c3 c4 c5 c6 c7 c8 c9 k _ (HDOC.out.below hB0.out)).mono ?_
  rintro e w1 ⟨⟨b, rfl, hb⟩, hb1⟩
  have HBb := hid hb
  have BB1 : Hid (Below (w.heap.size + 1) W0 w1) := hid (hz0.out ▸ hb1)
  clear hb hb1
  have box1 : w1.heap[w.heap.size]? = some (.cells #[.string f, .pointer o, .slice a1 n1 c1, .slice a2 n2 c2, .slice a3 n3 c3, .slice a4 n4 c4, .slice a5 n5 c5, .slice a6 n6 c6, .slice a7 n7 c7, .slice a8 n8 c8, .slice a9 n9 c9] 33 (0, 0)) := (BB1.out.block _ (Nat.lt_succ_self _)).trans hbx.out
  have fin : Hid (∀ w', Below (w.heap.size + 1) W0 w' → Below w.heap.size w w') := hid (fun w' h => hB0.out.trans (h.mono (Nat.le_succ _)))
  cases b with
  | false =>
    go_wp2
    go_ret
    exact ⟨rfl, fin.out _ BB1.out⟩
  | true =>
  obtain ⟨m1, m2, m3, m4, m5, m6, m7, m8, m9⟩ := HBb.out rfl
  have hNb : Hid (∀ j, j < 9 → (fun j => [n1, n2, n3, n4, n5, n6, n7, n8, n9].getD j 0) j ≤ 1048576) := hid (by
    intro j hj
    match j, hj with
    | 0, _ => exact m1
    | 1, _ => exact m2
    | 2, _ => exact m3
    | 3, _ => exact m4
    | 4, _ => exact m5
    | 5, _ => exact m6
    | 6, _ => exact m7
    | 7, _ => exact m8
    | 8, _ => exact m9
    | j + 9, hj => omega)
  go_wp2_with (refine wpList_load_row rfl 33 _ rfl w.heap.size rfl 33 #[.string f, .pointer o, .slice a1 n1 c1, .slice a2 n2 c2, .slice a3 n3 c3, .slice a4 n4 c4, .slice a5 n5 c5, .slice a6 n6 c6, .slice a7 n7 c7, .slice a8 n8 c8, .slice a9 n9 c9] _ _ box1 Try.underlying33 rfl info33 ?_)
  refine (docBytes_any f o a1 a2 a3 a4 a5 a6 a7 a8 a9 n1 n2 n3 n4 n5 n6 n7 n8 n9 c1 c2 c3 c4 c5 c6 c7 c8 c9 w1 (HDOC.out.below (fin.out _ BB1.out)) m1 m2 m3 m4 m5 m6 m7 m8 m9).mono ?_
  rintro e w2 ⟨⟨r, rfl, r0, r1⟩, hb2⟩
  have BB2 : Hid (Below (w.heap.size + 1) W0 w2) := hid (BB1.out.trans (hb2.mono (by have := BB1.out.size; have := hz0.out; omega)))
  have box2 : w2.heap[w.heap.size]? = some (.cells #[.string f, .pointer o, .slice a1 n1 c1, .slice a2 n2 c2, .slice a3 n3 c3, .slice a4 n4 c4, .slice a5 n5 c5, .slice a6 n6 c6, .slice a7 n7 c7, .slice a8 n8 c8, .slice a9 n9 c9] 33 (0, 0)) := (BB2.out.block _ (Nat.lt_succ_self _)).trans hbx.out
  clear hb2 box1
  by_cases hr : 1048576 < r
  · go_wp2
    go_ret
    exact ⟨rfl, fin.out _ BB2.out⟩
  by_cases hk0 : k < 0
  · go_wp2
    go_ret
    exact ⟨rfl, fin.out _ BB2.out⟩
  by_cases hk8 : 8 < k
  · go_wp2
    go_ret
    exact ⟨rfl, fin.out _ BB2.out⟩
  obtain ⟨kn, rfl⟩ := Int.eq_ofNat_of_zero_le (show 0 ≤ k by omega)
  have hkn : kn < 9 := by omega
  go_wp2_with (refine wpList_load_row rfl 33 _ rfl w.heap.size rfl 33 #[.string f, .pointer o, .slice a1 n1 c1, .slice a2 n2 c2, .slice a3 n3 c3, .slice a4 n4 c4, .slice a5 n5 c5, .slice a6 n6 c6, .slice a7 n7 c7, .slice a8 n8 c8, .slice a9 n9 c9] _ _ box2 Try.underlying33 rfl info33 ?_)
  refine (toDoc_any f o a1 a2 a3 a4 a5 a6 a7 a8 a9 n1 n2 n3 n4 n5 n6 n7 n8 n9 c1 c2 c3 c4 c5 c6 c7 c8 c9 w2 (HDOC.out.below (fin.out _ BB2.out)) m1 m2 m3 m4 m5 m6 m7 m8 m9).mono ?_
  rintro e w3 ⟨cs1, rfl, z1, z2, L1, hb3⟩
  have BB3 : Hid (Below (w.heap.size + 1) W0 w3) := hid (BB2.out.trans (hb3.mono (by have := BB2.out.size; have := hz0.out; omega)))
  have LL1 := hid L1
  clear L1 hb3 box2
  have hif1 : (Try.prog.info? 47).map (·.size) = some cs1.size := by rw [z1]; exact info47
  have hz11 : (11 : Nat) = cs1.size := z1.symm
  go_wp2_with (refine wpList_store_new rfl 47 _ _ rfl cs1 47 _ rfl rfl hif1 hz11 z2 rfl ?_)
  have BB4 : Hid (Below (w.heap.size + 1) W0 (w3.alloc (.cells cs1 47))) := hid (BB3.out.alloc (by have := BB3.out.size; have := hz0.out; omega) _)
  refine (counts_fn w3.heap.size (fun j => addrOf (cs1.getD (j + 2) undef)) (fun j => [n1, n2, n3, n4, n5, n6, n7, n8, n9].getD j 0) (fun j => capOf (cs1.getD (j + 2) undef)) _ (doc_cells z1 LL1.out hN0.out hNb.out) (fun j hj => Nat.le_succ_of_le (hNb.out j hj))).mono ?_
  rintro e w5 ⟨mb1, D1, rfl, hmb1, own1, M1, hb5⟩
  have BB5 : Hid (Below (w.heap.size + 1) W0 w5) := hid (BB4.out.trans (hb5.mono (by have := BB4.out.size; have := hz0.out; omega)))
  have box5 : w5.heap[w.heap.size]? = some (.cells #[.string f, .pointer o, .slice a1 n1 c1, .slice a2 n2 c2, .slice a3 n3 c3, .slice a4 n4 c4, .slice a5 n5 c5, .slice a6 n6 c6, .slice a7 n7 c7, .slice a8 n8 c8, .slice a9 n9 c9] 33 (0, 0)) := (BB5.out.block _ (Nat.lt_succ_self _)).trans hbx.out
  have OW1 := hid own1
  have MI1 : Hid (MapIs D1 (fun j => ((fun j => [a1, a2, a3, a4, a5, a6, a7, a8, a9].getD j none) j).isSome) (fun j => [n1, n2, n3, n4, n5, n6, n7, n8, n9].getD j 0) 9) := hid (M1.congr (fun j hj => ((LL1.out j hj).form (hN0.out j hj) (hNb.out j hj)).2.1) (fun _ _ => rfl))
  clear own1 M1 hb5 hmb1 hif1 hz11
  go_wp2_with (refine wpList_load_row rfl 33 _ rfl w.heap.size rfl 33 #[.string f, .pointer o, .slice a1 n1 c1, .slice a2 n2 c2, .slice a3 n3 c3, .slice a4 n4 c4, .slice a5 n5 c5, .slice a6 n6 c6, .slice a7 n7 c7, .slice a8 n8 c8, .slice a9 n9 c9] _ _ box5 Try.underlying33 rfl info33 ?_)
  refine (toDoc_any f o a1 a2 a3 a4 a5 a6 a7 a8 a9 n1 n2 n3 n4 n5 n6 n7 n8 n9 c1 c2 c3 c4 c5 c6 c7 c8 c9 w5 (HDOC.out.below (fin.out _ BB5.out)) m1 m2 m3 m4 m5 m6 m7 m8 m9).mono ?_
  rintro e w6 ⟨cs2, rfl, y1, y2, L2, hb6⟩
  have BB6 : Hid (Below (w.heap.size + 1) W0 w6) := hid (BB5.out.trans (hb6.mono (by have := BB5.out.size; have := hz0.out; omega)))
  have LL2 := hid L2
  have OW6 : Hid (Own w6 mb1 9 D1) := hid (OW1.out.kept (row := none) ⟨hb6.os, hb6.tape, hb6.output, hb6.size, fun k hk _ => hb6.block k hk⟩ (by simp))
  have hlt1 := OW1.out.lt
  have hs56 := hb6.size
  clear L2 hb6 box5 OW1
  have hif2 : (Try.prog.info? 47).map (·.size) = some cs2.size := by rw [y1]; exact info47
  have hz21 : (11 : Nat) = cs2.size := y1.symm
  go_wp2_with (refine wpList_store_new rfl 47 _ _ rfl cs2 47 _ rfl rfl hif2 hz21 y2 rfl ?_)
  have BB7 : Hid (Below (w.heap.size + 1) W0 (w6.alloc (.cells cs2 47))) := hid (BB6.out.alloc (by have := BB6.out.size; have := hz0.out; omega) _)
  obtain ⟨fv, fs, ⟨xs, fown⟩, fblk⟩ := (LL2.out kn hkn).form (hN0.out kn hkn) (hNb.out kn hkn)
  have dc2 := hid (doc_cells y1 LL2.out hN0.out hNb.out)
  have hnd : Hid (some w6.heap.size ≠ (Value.slice (addrOf (cs2.getD (kn + 2) undef)) ((fun j => [n1, n2, n3, n4, n5, n6, n7, n8, n9].getD j 0) kn) (capOf (cs2.getD (kn + 2) undef))).ownBlock) := hid (fun h => by have := (fblk _ h.symm).2; omega)
  have hnm : Hid (some mb1 ≠ (Value.slice (addrOf (cs2.getD (kn + 2) undef)) ((fun j => [n1, n2, n3, n4, n5, n6, n7, n8, n9].getD j 0) kn) (capOf (cs2.getD (kn + 2) undef))).ownBlock) := hid (fun h => by have := (fblk _ h.symm).1; omega)
  have hng : Hid (∀ j, j < w.heap.size + 1 → some j ≠ (Value.slice (addrOf (cs2.getD (kn + 2) undef)) ((fun j => [n1, n2, n3, n4, n5, n6, n7, n8, n9].getD j 0) kn) (capOf (cs2.getD (kn + 2) undef))).ownBlock) := hid (fun j hj h => by have := (fblk _ h.symm).1; have := BB5.out.size; have := hz0.out; omega)
  have FO := hid fown
  clear fv fs fown fblk hif2 hz21
  refine (add_any kn hkn w6.heap.size _ _ _ xs _ (FO.out.alloc _) (dc2.out kn hkn) (frozen_of_row _ _ _ cs2 47 (heap_alloc_new w6 _)) hnd.out (hNb.out kn hkn)).mono ?_
  rintro e w8 ⟨rfl, w7, g', c', hgr, hw8⟩
  have HGR := hid hgr
  have HW8 := hid hw8
  have dlt : w6.heap.size < (w6.alloc (.cells cs2 47)).heap.size := by simp
  have dc8 : Hid (∀ j, j < 9 → w8.cell? ⟨w6.heap.size, j + 2, none⟩ = some (.slice (if j = kn then some ⟨g', 0, none⟩ else addrOf (cs2.getD (j + 2) undef)) (updV (fun j => [n1, n2, n3, n4, n5, n6, n7, n8, n9].getD j 0) kn j) (if j = kn then c' else capOf (cs2.getD (j + 2) undef)))) := hid (fun j hj => by
    rw [HW8.out]
    by_cases e : j = kn
    · subst e
      rw [if_pos rfl, if_pos rfl, show updV (fun j => [n1, n2, n3, n4, n5, n6, n7, n8, n9].getD j 0) j j = (fun j => [n1, n2, n3, n4, n5, n6, n7, n8, n9].getD j 0) j + 1 from by simp [updV]]
      exact World.cell?_setCell_same _ _ _ (HGR.out.cell (dc2.out j hj) hnd.out)
    · rw [if_neg e, if_neg e, show updV (fun j => [n1, n2, n3, n4, n5, n6, n7, n8, n9].getD j 0) kn j = (fun j => [n1, n2, n3, n4, n5, n6, n7, n8, n9].getD j 0) j from by simp [updV, e]]
      exact (World.cell?_setCell_other _ _ _ _ (fun h => e (by simpa using h.symm))).trans (HGR.out.cell (dc2.out j hj) hnd.out))
  have BB8 : Hid (Below (w.heap.size + 1) W0 w8) := hid (by
    rw [HW8.out]
    refine Below.setCell (BB7.out.trans ⟨HGR.out.os, HGR.out.tape, HGR.out.output, HGR.out.size, fun j hj => HGR.out.block j (by have := BB7.out.size; have := hz0.out; omega) (hng.out j hj)⟩) ?_ _
    have := BB6.out.size; have := hz0.out
    show w.heap.size + 1 ≤ w6.heap.size
    omega)
  have OW8 : Hid (Own w8 mb1 9 D1) := hid (by
    have h1 := (OW6.out.alloc (.cells cs2 47)).kept HGR.out hnm.out
    rw [HW8.out]
    exact h1.kept (row := some w6.heap.size) ⟨rfl, rfl, rfl, by simp [World.setCell], fun j hj hne => heap_setCell_other w7 ⟨_, _, none⟩ j _ (fun h => hne (by simp [h]))⟩ (by simp; omega))
  clear hgr hw8 dc2 hnd hnm hng FO HGR HW8 OW6
  go_wp2_with fail
  refine (counts_fn w6.heap.size _ (updV (fun j => [n1, n2, n3, n4, n5, n6, n7, n8, n9].getD j 0) kn) _ _ dc8.out (updV_le hkn hNb.out)).mono ?_
  rintro e w9 ⟨mb2, D2, rfl, hmb2, own2, M2, hb9⟩
  have BB9 : Hid (Below (w.heap.size + 1) W0 w9) := hid (BB8.out.trans (hb9.mono (by have := BB8.out.size; have := hz0.out; omega)))
  have box9 : w9.heap[w.heap.size]? = some (.cells #[.string f, .pointer o, .slice a1 n1 c1, .slice a2 n2 c2, .slice a3 n3 c3, .slice a4 n4 c4, .slice a5 n5 c5, .slice a6 n6 c6, .slice a7 n7 c7, .slice a8 n8 c8, .slice a9 n9 c9] 33 (0, 0)) := (BB9.out.block _ (Nat.lt_succ_self _)).trans hbx.out
  have OW9 : Hid (Own w9 mb1 9 D1) := hid (OW8.out.kept (row := none) ⟨hb9.os, hb9.tape, hb9.output, hb9.size, fun k hk _ => hb9.block k hk⟩ (by simp))
  have OX9 := hid own2
  have MI2 : Hid (MapIs D2 (updB (fun j => ((fun j => [a1, a2, a3, a4, a5, a6, a7, a8, a9].getD j none) j).isSome) kn) (updV (fun j => [n1, n2, n3, n4, n5, n6, n7, n8, n9].getD j 0) kn) 9) := hid (M2.congr (fun j hj => by
    unfold updB
    by_cases e : j = kn
    · rw [if_pos e, if_pos e]; rfl
    · rw [if_neg e, if_neg e]; exact ((LL2.out j hj).form (hN0.out j hj) (hNb.out j hj)).2.1) (fun _ _ => rfl))
  clear own2 M2 hb9 hmb2 OW8 dc8
  go_wp2_with (refine wpList_load_row rfl 33 _ rfl w.heap.size rfl 33 #[.string f, .pointer o, .slice a1 n1 c1, .slice a2 n2 c2, .slice a3 n3 c3, .slice a4 n4 c4, .slice a5 n5 c5, .slice a6 n6 c6, .slice a7 n7 c7, .slice a8 n8 c8, .slice a9 n9 c9] _ _ box9 Try.underlying33 rfl info33 ?_)
  refine (listState_any f o a1 a2 a3 a4 a5 a6 a7 a8 a9 n1 n2 n3 n4 n5 n6 n7 n8 n9 c1 c2 c3 c4 c5 c6 c7 c8 c9 kn hkn w9).mono ?_
  rintro e w10 ⟨rfl, hb10⟩
  have BB10 : Hid (Below (w.heap.size + 1) W0 w10) := hid (BB9.out.trans (hb10.mono (by have := BB9.out.size; have := hz0.out; omega)))
  have OW10 : Hid (Own w10 mb1 9 D1) := hid (OW9.out.kept (row := none) ⟨hb10.os, hb10.tape, hb10.output, hb10.size, fun k hk _ => hb10.block k hk⟩ (by simp))
  have OX10 : Hid (Own w10 mb2 9 D2) := hid (OX9.out.kept (row := none) ⟨hb10.os, hb10.tape, hb10.output, hb10.size, fun k hk _ => hb10.block k hk⟩ (by simp))
  clear hb10 box9 OW9 OX9
  have hs1 : Maps.size D1 = cnt (fun j => ((fun j => [a1, a2, a3, a4, a5, a6, a7, a8, a9].getD j none) j).isSome) 9 := MI1.out.2.2
  have hs2 : Maps.size D2 = cnt (updB (fun j => ((fun j => [a1, a2, a3, a4, a5, a6, a7, a8, a9].getD j none) j).isSome) kn) 9 := MI2.out.2.2
  rw [cnt_upd] at hs2
  have hle := cnt_le (fun j => ((fun j => [a1, a2, a3, a4, a5, a6, a7, a8, a9].getD j none) j).isSome) 9
  generalize hA : (fun j => [a1, a2, a3, a4, a5, a6, a7, a8, a9].getD j none) = A at *
  generalize hN : (fun j => [n1, n2, n3, n4, n5, n6, n7, n8, n9].getD j 0) = N at *
  have HH := hid (And.intro hA hN)
  clear hA hN
  cases hsm : (A kn).isSome with
  | true =>
    rw [if_neg (by simp [hsm])] at hs2
    have e12 : (Maps.size D2 : Int) = (Maps.size D1 : Int) := by omega
    have e9 : Maps.size D1 ≤ 9 := by omega
    have HSM := hid hsm
    clear hs1 hs2 hle
    go_wp2_with (first
      | (at_len; refine wpList_len_own _ rfl _ 49 rfl 9 3 Try.underlying49 _ mb2 9 D2 rfl OX10.out ?_)
      | (at_len; refine wpList_len_own _ rfl _ 49 rfl 9 3 Try.underlying49 _ mb1 9 D1 rfl OW10.out ?_))
    rename_i K hKK
    suffices hx : ∀ a' : Act, a'.defers = [] → a'.tmps.size = 97 → K a' w10 by
      refine last_loop mb1 mb2 D1 D2 (fun j => (A j).isSome) N kn hkn w10 OW10.out OX10.out (by rw [← HH.out.1]; exact MI1.out) (by rw [← HH.out.1]; exact MI2.out) ?_ (by rw [← HH.out.2]; exact hNb.out) _ ?_ _ rfl rfl rfl rfl rfl rfl rfl
      · intro j hj h
        have h' : A j = none := by simpa using h
        rw [← HH.out.1] at h'
        rw [← HH.out.2]
        exact hN0.out j hj h'
      · intro a' h1 h2
        exact hx a' h1 h2
    intro a' h1 h2
    refine hKK a' w10 ?_
    rw [act_lit 97 a' h2 h1]
    generalize slotOf a' = S at *
    rw [lit97 S]
    clear hKK h1 h2
    go_wp2
    go_ret
    exact ⟨rfl, fin.out _ BB10.out⟩
  | false =>
    rw [if_pos ⟨hkn, hsm⟩] at hs2
    have e12 : (Maps.size D2 : Int) = (Maps.size D1 : Int) + 1 := by omega
    have e9 : Maps.size D1 ≤ 9 := by omega
    have HSM := hid hsm
    clear hs1 hs2 hle
    go_wp2_with (first
      | (at_len; refine wpList_len_own _ rfl _ 49 rfl 9 3 Try.underlying49 _ mb2 9 D2 rfl OX10.out ?_)
      | (at_len; refine wpList_len_own _ rfl _ 49 rfl 9 3 Try.underlying49 _ mb1 9 D1 rfl OW10.out ?_))
    rename_i K hKK
    suffices hx : ∀ a' : Act, a'.defers = [] → a'.tmps.size = 97 → K a' w10 by
      refine last_loop mb1 mb2 D1 D2 (fun j => (A j).isSome) N kn hkn w10 OW10.out OX10.out (by rw [← HH.out.1]; exact MI1.out) (by rw [← HH.out.1]; exact MI2.out) ?_ (by rw [← HH.out.2]; exact hNb.out) _ ?_ _ rfl rfl rfl rfl rfl rfl rfl
      · intro j hj h
        have h' : A j = none := by simpa using h
        rw [← HH.out.1] at h'
        rw [← HH.out.2]
        exact hN0.out j hj h'
      · intro a' h1 h2
        exact hx a' h1 h2
    intro a' h1 h2
    refine hKK a' w10 ?_
    rw [act_lit 97 a' h2 h1]
    generalize slotOf a' = S at *
    rw [lit97 S]
    clear hKK h1 h2
    go_wp2
    go_ret
    exact ⟨rfl, fin.out _ BB10.out⟩
end Go.Proofs.Qxb6613414a
