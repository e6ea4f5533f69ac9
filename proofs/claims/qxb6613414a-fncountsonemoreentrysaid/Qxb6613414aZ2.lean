import Derived.Test.Qxb6613414aZ1
import Derived.Deep.DeepCutAuto
namespace Go.Proofs.Qxb6613414a
open Go.RowKit

theorem MU_at {n slot k : Nat} {a : Act} {w : World} (h : slotOf a slot = .int .i64 k) : MU n slot a w = n - k := by
  unfold MU; rw [h]; simp [intOf]

theorem zloop1 (g : Nat) (W : World) (A : Option Addr) (n c : Nat) (hd : W.cell? ⟨g, 2, none⟩ = some (.slice A n c)) (hrow : RowK W [0, 1] A n) (hn : n ≤ 1048576)
    (Q0 : Exit → Act → World → Prop) (hx : ∀ a', AZ g a' → Q0 (.exit 0) a' W) (hr : ∀ a', RZ a' → Q0 .ret a' W)
    (a : Act) (hA : AZ g a) (hi : slotOf a 6 = .int .i64 0) : Code.wp Try.prog (Code.loop (sel Try.f4.body 0)) Q0 a W := by
  refine wp_loop (IZ g n 6 W) (MU n 6) ⟨hA, ⟨0, Nat.zero_le _, hi⟩, rfl⟩ ?_
  intro a' w' hI
  obtain ⟨hA', ⟨k, hk, hk'⟩, rfl⟩ := hI
  rw [MU_at hk']
  exact zround1 g w' A n c hd hrow hn Q0 hx hr a' hA' k hk hk'

theorem zloop2 (g : Nat) (W : World) (A : Option Addr) (n c : Nat) (hd : W.cell? ⟨g, 3, none⟩ = some (.slice A n c)) (hrow : RowK W [0, 0, 1, 2] A n) (hn : n ≤ 1048576)
    (Q0 : Exit → Act → World → Prop) (hx : ∀ a', AZ g a' → Q0 (.exit 2) a' W) (hr : ∀ a', RZ a' → Q0 .ret a' W)
    (a : Act) (hA : AZ g a) (hi : slotOf a 7 = .int .i64 0) : Code.wp Try.prog (Code.loop (sel Try.f4.body 1)) Q0 a W := by
  refine wp_loop (IZ g n 7 W) (MU n 7) ⟨hA, ⟨0, Nat.zero_le _, hi⟩, rfl⟩ ?_
  intro a' w' hI
  obtain ⟨hA', ⟨k, hk, hk'⟩, rfl⟩ := hI
  rw [MU_at hk']
  exact zround2 g w' A n c hd hrow hn Q0 hx hr a' hA' k hk hk'

theorem zloop3 (g : Nat) (W : World) (A : Option Addr) (n c : Nat) (hd : W.cell? ⟨g, 4, none⟩ = some (.slice A n c)) (hrow : RowK W [0, 0] A n) (hn : n ≤ 1048576)
    (Q0 : Exit → Act → World → Prop) (hx : ∀ a', AZ g a' → Q0 (.exit 4) a' W) (hr : ∀ a', RZ a' → Q0 .ret a' W)
    (a : Act) (hA : AZ g a) (hi : slotOf a 8 = .int .i64 0) : Code.wp Try.prog (Code.loop (sel Try.f4.body 2)) Q0 a W := by
  refine wp_loop (IZ g n 8 W) (MU n 8) ⟨hA, ⟨0, Nat.zero_le _, hi⟩, rfl⟩ ?_
  intro a' w' hI
  obtain ⟨hA', ⟨k, hk, hk'⟩, rfl⟩ := hI
  rw [MU_at hk']
  exact zround3 g w' A n c hd hrow hn Q0 hx hr a' hA' k hk hk'

theorem zloop4 (g : Nat) (W : World) (A : Option Addr) (n c : Nat) (hd : W.cell? ⟨g, 5, none⟩ = some (.slice A n c)) (hrow : RowK W [0, 0] A n) (hn : n ≤ 1048576)
    (Q0 : Exit → Act → World → Prop) (hx : ∀ a', AZ g a' → Q0 (.exit 6) a' W) (hr : ∀ a', RZ a' → Q0 .ret a' W)
    (a : Act) (hA : AZ g a) (hi : slotOf a 9 = .int .i64 0) : Code.wp Try.prog (Code.loop (sel Try.f4.body 3)) Q0 a W := by
  refine wp_loop (IZ g n 9 W) (MU n 9) ⟨hA, ⟨0, Nat.zero_le _, hi⟩, rfl⟩ ?_
  intro a' w' hI
  obtain ⟨hA', ⟨k, hk, hk'⟩, rfl⟩ := hI
  rw [MU_at hk']
  exact zround4 g w' A n c hd hrow hn Q0 hx hr a' hA' k hk hk'

theorem zloop5 (g : Nat) (W : World) (A : Option Addr) (n c : Nat) (hd : W.cell? ⟨g, 6, none⟩ = some (.slice A n c)) (hrow : RowK W [0, 0] A n) (hn : n ≤ 1048576)
    (Q0 : Exit → Act → World → Prop) (hx : ∀ a', AZ g a' → Q0 (.exit 8) a' W) (hr : ∀ a', RZ a' → Q0 .ret a' W)
    (a : Act) (hA : AZ g a) (hi : slotOf a 10 = .int .i64 0) : Code.wp Try.prog (Code.loop (sel Try.f4.body 4)) Q0 a W := by
  refine wp_loop (IZ g n 10 W) (MU n 10) ⟨hA, ⟨0, Nat.zero_le _, hi⟩, rfl⟩ ?_
  intro a' w' hI
  obtain ⟨hA', ⟨k, hk, hk'⟩, rfl⟩ := hI
  rw [MU_at hk']
  exact zround5 g w' A n c hd hrow hn Q0 hx hr a' hA' k hk hk'

theorem zloop6 (g : Nat) (W : World) (A : Option Addr) (n c : Nat) (hd : W.cell? ⟨g, 7, none⟩ = some (.slice A n c)) (hrow : RowK W [0, 0] A n) (hn : n ≤ 1048576)
    (Q0 : Exit → Act → World → Prop) (hx : ∀ a', AZ g a' → Q0 (.exit 10) a' W) (hr : ∀ a', RZ a' → Q0 .ret a' W)
    (a : Act) (hA : AZ g a) (hi : slotOf a 11 = .int .i64 0) : Code.wp Try.prog (Code.loop (sel Try.f4.body 5)) Q0 a W := by
  refine wp_loop (IZ g n 11 W) (MU n 11) ⟨hA, ⟨0, Nat.zero_le _, hi⟩, rfl⟩ ?_
  intro a' w' hI
  obtain ⟨hA', ⟨k, hk, hk'⟩, rfl⟩ := hI
  rw [MU_at hk']
  exact zround6 g w' A n c hd hrow hn Q0 hx hr a' hA' k hk hk'

theorem zloop7 (g : Nat) (W : World) (A : Option Addr) (n c : Nat) (hd : W.cell? ⟨g, 8, none⟩ = some (.slice A n c)) (hrow : RowK W [0, 0, 0] A n) (hn : n ≤ 1048576)
    (Q0 : Exit → Act → World → Prop) (hx : ∀ a', AZ g a' → Q0 (.exit 12) a' W) (hr : ∀ a', RZ a' → Q0 .ret a' W)
    (a : Act) (hA : AZ g a) (hi : slotOf a 12 = .int .i64 0) : Code.wp Try.prog (Code.loop (sel Try.f4.body 6)) Q0 a W := by
  refine wp_loop (IZ g n 12 W) (MU n 12) ⟨hA, ⟨0, Nat.zero_le _, hi⟩, rfl⟩ ?_
  intro a' w' hI
  obtain ⟨hA', ⟨k, hk, hk'⟩, rfl⟩ := hI
  rw [MU_at hk']
  exact zround7 g w' A n c hd hrow hn Q0 hx hr a' hA' k hk hk'

theorem zloop8 (g : Nat) (W : World) (A : Option Addr) (n c : Nat) (hd : W.cell? ⟨g, 9, none⟩ = some (.slice A n c)) (hrow : RowK W [0, 0, 0] A n) (hn : n ≤ 1048576)
    (Q0 : Exit → Act → World → Prop) (hx : ∀ a', AZ g a' → Q0 (.exit 14) a' W) (hr : ∀ a', RZ a' → Q0 .ret a' W)
    (a : Act) (hA : AZ g a) (hi : slotOf a 13 = .int .i64 0) : Code.wp Try.prog (Code.loop (sel Try.f4.body 7)) Q0 a W := by
  refine wp_loop (IZ g n 13 W) (MU n 13) ⟨hA, ⟨0, Nat.zero_le _, hi⟩, rfl⟩ ?_
  intro a' w' hI
  obtain ⟨hA', ⟨k, hk, hk'⟩, rfl⟩ := hI
  rw [MU_at hk']
  exact zround8 g w' A n c hd hrow hn Q0 hx hr a' hA' k hk hk'

theorem zloop9 (g : Nat) (W : World) (A : Option Addr) (n c : Nat) (hd : W.cell? ⟨g, 10, none⟩ = some (.slice A n c)) (hrow : RowK W [0, 0, 0] A n) (hn : n ≤ 1048576)
    (Q0 : Exit → Act → World → Prop) (hx : ∀ a', AZ g a' → Q0 (.exit 16) a' W) (hr : ∀ a', RZ a' → Q0 .ret a' W)
    (a : Act) (hA : AZ g a) (hi : slotOf a 14 = .int .i64 0) : Code.wp Try.prog (Code.loop (sel Try.f4.body 8)) Q0 a W := by
  refine wp_loop (IZ g n 14 W) (MU n 14) ⟨hA, ⟨0, Nat.zero_le _, hi⟩, rfl⟩ ?_
  intro a' w' hI
  obtain ⟨hA', ⟨k, hk, hk'⟩, rfl⟩ := hI
  rw [MU_at hk']
  exact zround9 g w' A n c hd hrow hn Q0 hx hr a' hA' k hk hk'

def BytesPost (n1 n2 n3 n4 n5 n6 n7 n8 n9 : Nat) (e : Ending) : Prop :=
  ∃ b : Bool, e = .returned (.bool b) ∧ (b = true → n1 ≤ 1048576 ∧ n2 ≤ 1048576 ∧ n3 ≤ 1048576 ∧ n4 ≤ 1048576 ∧ n5 ≤ 1048576 ∧ n6 ≤ 1048576 ∧ n7 ≤ 1048576 ∧ n8 ≤ 1048576 ∧ n9 ≤ 1048576)
theorem BytesPost.no {n1 n2 n3 n4 n5 n6 n7 n8 n9 : Nat} {e : Ending} (h : e = .returned (.bool false)) : BytesPost n1 n2 n3 n4 n5 n6 n7 n8 n9 e := ⟨false, h, fun h => by cases h⟩

theorem zret (R : Ending → World → Prop) (a : Act) (W : World) (h : RZ a) (hR : R (.returned (.bool false)) W) : bodyPost Try.prog Try.f4 R .ret a W :=
  bodyPost_ret (results_tmp rfl _ _ _) h.2.1 (by have e : a.tmps.getD 4 undef = .bool false := h.2.2; rw [e]; exact hR)

/-- The organization: nil, or two strings. -/
def OrgOk (W : World) (o : Option Addr) : Prop := o = none ∨ ∃ b off s t, o = some ⟨b, off, none⟩ ∧ W.cell? ⟨b, off, none⟩ = some (.string s) ∧ W.cell? ⟨b, off + 1, none⟩ = some (.string t)
theorem OrgOk.below {W W' : World} {o : Option Addr} (h : OrgOk W o) (hb : Below W.heap.size W W') : OrgOk W' o := by
  rcases h with h | ⟨b, off, s, t, h, h1, h2⟩
  · exact .inl h
  · exact .inr ⟨b, off, s, t, h, (hb.cell (p := ⟨b, off, none⟩) (World.block_lt_of_cell? W _ h1)).trans h1, (hb.cell (p := ⟨b, off + 1, none⟩) (World.block_lt_of_cell? W _ h2)).trans h2⟩

/-- What is known of the document that came in. -/
def DocOk (W : World) (f : ByteArray) (o : Option Addr) (a1 a2 a3 a4 a5 a6 a7 a8 a9 : Option Addr) (n1 n2 n3 n4 n5 n6 n7 n8 n9 c1 c2 c3 c4 c5 c6 c7 c8 c9 : Nat) : Prop :=
  f.size ≤ maxLen ∧ OrgOk W o ∧ (RowK W [0, 1] a1 n1 ∧ n1 ≤ maxLen ∧ (a1 = none → n1 = 0 ∧ c1 = 0)) ∧ (RowK W [0, 0, 1, 2] a2 n2 ∧ n2 ≤ maxLen ∧ (a2 = none → n2 = 0 ∧ c2 = 0)) ∧ (RowK W [0, 0] a3 n3 ∧ n3 ≤ maxLen ∧ (a3 = none → n3 = 0 ∧ c3 = 0)) ∧ (RowK W [0, 0] a4 n4 ∧ n4 ≤ maxLen ∧ (a4 = none → n4 = 0 ∧ c4 = 0)) ∧ (RowK W [0, 0] a5 n5 ∧ n5 ≤ maxLen ∧ (a5 = none → n5 = 0 ∧ c5 = 0)) ∧ (RowK W [0, 0] a6 n6 ∧ n6 ≤ maxLen ∧ (a6 = none → n6 = 0 ∧ c6 = 0)) ∧ (RowK W [0, 0, 0] a7 n7 ∧ n7 ≤ maxLen ∧ (a7 = none → n7 = 0 ∧ c7 = 0)) ∧ (RowK W [0, 0, 0] a8 n8 ∧ n8 ≤ maxLen ∧ (a8 = none → n8 = 0 ∧ c8 = 0)) ∧ (RowK W [0, 0, 0] a9 n9 ∧ n9 ≤ maxLen ∧ (a9 = none → n9 = 0 ∧ c9 = 0))

set_option maxHeartbeats 8000000 in
set_option maxRecDepth 1000000 in
theorem bytes_any (f : ByteArray) (o : Option Addr) (a1 a2 a3 a4 a5 a6 a7 a8 a9 : Option Addr) (n1 n2 n3 n4 n5 n6 n7 n8 n9 c1 c2 c3 c4 c5 c6 c7 c8 c9 : Nat) (k : Int) (w : World) (hdoc : DocOk w f o a1 a2 a3 a4 a5 a6 a7 a8 a9 n1 n2 n3 n4 n5 n6 n7 n8 n9 c1 c2 c3 c4 c5 c6 c7 c8 c9) :
    Calls Try.prog 4 #[.agg #[.string f, .pointer o, .slice a1 n1 c1, .slice a2 n2 c2, .slice a3 n3 c3, .slice a4 n4 c4, .slice a5 n5 c5, .slice a6 n6 c6, .slice a7 n7 c7, .slice a8 n8 c8, .slice a9 n9 c9], .int .i64 k] w fun e w' => BytesPost n1 n2 n3 n4 n5 n6 n7 n8 n9 e ∧ Below w.heap.size w w' := by
  obtain ⟨hlf, horg, ⟨h1, l1, _⟩, ⟨h2, l2, _⟩, ⟨h3, l3, _⟩, ⟨h4, l4, _⟩, ⟨h5, l5, _⟩, ⟨h6, l6, _⟩, ⟨h7, l7, _⟩, ⟨h8, l8, _⟩, ⟨h9, l9, _⟩⟩ := hdoc
  unfold maxLen at *
  have hB := hid ((Below.refl w.heap.size w).alloc (Nat.le_refl _) (.cells #[.string f, .pointer o, .slice a1 n1 c1, .slice a2 n2 c2, .slice a3 n3 c3, .slice a4 n4 c4, .slice a5 n5 c5, .slice a6 n6 c6, .slice a7 n7 c7, .slice a8 n8 c8, .slice a9 n9 c9] 33))
  have HO := hid (horg.below hB.out)
  have H1 := hid (h1.below hB.out)
  have H2 := hid (h2.below hB.out)
  have H3 := hid (h3.below hB.out)
  have H4 := hid (h4.below hB.out)
  have H5 := hid (h5.below hB.out)
  have H6 := hid (h6.below hB.out)
  have H7 := hid (h7.below hB.out)
  have H8 := hid (h8.below hB.out)
  have H9 := hid (h9.below hB.out)
  clear horg h1 h2 h3 h4 h5 h6 h7 h8 h9
  have D1 : Hid ((w.alloc (.cells #[.string f, .pointer o, .slice a1 n1 c1, .slice a2 n2 c2, .slice a3 n3 c3, .slice a4 n4 c4, .slice a5 n5 c5, .slice a6 n6 c6, .slice a7 n7 c7, .slice a8 n8 c8, .slice a9 n9 c9] 33)).cell? ⟨w.heap.size, 2, none⟩ = some (.slice a1 n1 c1)) := hid (by simp)
  have D2 : Hid ((w.alloc (.cells #[.string f, .pointer o, .slice a1 n1 c1, .slice a2 n2 c2, .slice a3 n3 c3, .slice a4 n4 c4, .slice a5 n5 c5, .slice a6 n6 c6, .slice a7 n7 c7, .slice a8 n8 c8, .slice a9 n9 c9] 33)).cell? ⟨w.heap.size, 3, none⟩ = some (.slice a2 n2 c2)) := hid (by simp)
  have D3 : Hid ((w.alloc (.cells #[.string f, .pointer o, .slice a1 n1 c1, .slice a2 n2 c2, .slice a3 n3 c3, .slice a4 n4 c4, .slice a5 n5 c5, .slice a6 n6 c6, .slice a7 n7 c7, .slice a8 n8 c8, .slice a9 n9 c9] 33)).cell? ⟨w.heap.size, 4, none⟩ = some (.slice a3 n3 c3)) := hid (by simp)
  have D4 : Hid ((w.alloc (.cells #[.string f, .pointer o, .slice a1 n1 c1, .slice a2 n2 c2, .slice a3 n3 c3, .slice a4 n4 c4, .slice a5 n5 c5, .slice a6 n6 c6, .slice a7 n7 c7, .slice a8 n8 c8, .slice a9 n9 c9] 33)).cell? ⟨w.heap.size, 5, none⟩ = some (.slice a4 n4 c4)) := hid (by simp)
  have D5 : Hid ((w.alloc (.cells #[.string f, .pointer o, .slice a1 n1 c1, .slice a2 n2 c2, .slice a3 n3 c3, .slice a4 n4 c4, .slice a5 n5 c5, .slice a6 n6 c6, .slice a7 n7 c7, .slice a8 n8 c8, .slice a9 n9 c9] 33)).cell? ⟨w.heap.size, 6, none⟩ = some (.slice a5 n5 c5)) := hid (by simp)
  have D6 : Hid ((w.alloc (.cells #[.string f, .pointer o, .slice a1 n1 c1, .slice a2 n2 c2, .slice a3 n3 c3, .slice a4 n4 c4, .slice a5 n5 c5, .slice a6 n6 c6, .slice a7 n7 c7, .slice a8 n8 c8, .slice a9 n9 c9] 33)).cell? ⟨w.heap.size, 7, none⟩ = some (.slice a6 n6 c6)) := hid (by simp)
  have D7 : Hid ((w.alloc (.cells #[.string f, .pointer o, .slice a1 n1 c1, .slice a2 n2 c2, .slice a3 n3 c3, .slice a4 n4 c4, .slice a5 n5 c5, .slice a6 n6 c6, .slice a7 n7 c7, .slice a8 n8 c8, .slice a9 n9 c9] 33)).cell? ⟨w.heap.size, 8, none⟩ = some (.slice a7 n7 c7)) := hid (by simp)
  have D8 : Hid ((w.alloc (.cells #[.string f, .pointer o, .slice a1 n1 c1, .slice a2 n2 c2, .slice a3 n3 c3, .slice a4 n4 c4, .slice a5 n5 c5, .slice a6 n6 c6, .slice a7 n7 c7, .slice a8 n8 c8, .slice a9 n9 c9] 33)).cell? ⟨w.heap.size, 9, none⟩ = some (.slice a8 n8 c8)) := hid (by simp)
  have D9 : Hid ((w.alloc (.cells #[.string f, .pointer o, .slice a1 n1 c1, .slice a2 n2 c2, .slice a3 n3 c3, .slice a4 n4 c4, .slice a5 n5 c5, .slice a6 n6 c6, .slice a7 n7 c7, .slice a8 n8 c8, .slice a9 n9 c9] 33)).cell? ⟨w.heap.size, 10, none⟩ = some (.slice a9 n9 c9)) := hid (by simp)
  by_cases cf : 1048576 < f.size
  · go_enter Try.func4, Try.ntmps4
    go_wp2
    go_ret
    exact ⟨BytesPost.no rfl, hB.out⟩
  go_enter Try.func4, Try.ntmps4
  go_upto_if 28 with (fail)
  rename_i K hKK
  suffices hx : ∀ a', AZ w.heap.size a' → K a' (w.alloc (.cells #[.string f, .pointer o, .slice a1 n1 c1, .slice a2 n2 c2, .slice a3 n3 c3, .slice a4 n4 c4, .slice a5 n5 c5, .slice a6 n6 c6, .slice a7 n7 c7, .slice a8 n8 c8, .slice a9 n9 c9] 33)) by
    have HX := hid hx
    rcases HO.out with rfl | ⟨b, off, s, t, rfl, q1, q2⟩
    · clear hx hKK HO H1 D1 H2 D2 H3 D3 H4 D4 H5 D5 H6 D6 H7 D7 H8 D8 H9 D9
      go_wp2
      exact HX.out _ ⟨rfl, rfl, rfl, _, by omega, by omega, rfl⟩
    · clear hx hKK HO H1 D1 H2 D2 H3 D3 H4 D4 H5 D5 H6 D6 H7 D7 H8 D8 H9 D9
      go_wp2
      all_goals first
        | (go_ret; exact ⟨BytesPost.no rfl, hB.out⟩)
        | exact HX.out _ ⟨rfl, rfl, rfl, _, by omega, by omega, rfl⟩
  intro a' hA
  refine hKK a' _ ?_
  clear hKK
  obtain ⟨hs, hdf, h2, T1, t1, u1, h5⟩ := hA
  rw [act_lit 665 a' hs hdf]
  generalize slotOf a' = S1 at *
  rw [lit665 S1, h2, h5]
  clear h2 h5 hs hdf
  by_cases cn1 : 1048576 < n1
  · go_wp2
    go_ret
    exact ⟨BytesPost.no rfl, hB.out⟩
  by_cases ct1 : 1048576 < T1 + n1
  · go_wp2
    go_ret
    exact ⟨BytesPost.no rfl, hB.out⟩
  go_wp2
  clear a'
  rename_i K hKK
  suffices hx : ∀ a', AZ w.heap.size a' → K a' (w.alloc (.cells #[.string f, .pointer o, .slice a1 n1 c1, .slice a2 n2 c2, .slice a3 n3 c3, .slice a4 n4 c4, .slice a5 n5 c5, .slice a6 n6 c6, .slice a7 n7 c7, .slice a8 n8 c8, .slice a9 n9 c9] 33)) by
    refine zloop1 w.heap.size _ a1 n1 c1 D1.out H1.out (by omega) _ ?_ ?_ _ ?_ ?_
    · intro a' h; exact hx a' h
    · intro a' h; exact zret (fun e w' => BytesPost n1 n2 n3 n4 n5 n6 n7 n8 n9 e ∧ Below w.heap.size w w') a' _ h ⟨BytesPost.no rfl, hB.out⟩
    · exact ⟨rfl, rfl, rfl, _, by omega, by omega, rfl⟩
    · rfl
  intro a' hA
  refine hKK a' _ ?_
  clear hKK ct1
  obtain ⟨hs, hdf, h2, T2, t2, u2, h5⟩ := hA
  rw [act_lit 665 a' hs hdf]
  generalize slotOf a' = S2 at *
  rw [lit665 S2, h2, h5]
  clear h2 h5 hs hdf
  by_cases cn2 : 1048576 < n2
  · go_wp2
    go_ret
    exact ⟨BytesPost.no rfl, hB.out⟩
  by_cases ct2 : 1048576 < T2 + n2
  · go_wp2
    go_ret
    exact ⟨BytesPost.no rfl, hB.out⟩
  go_wp2
  clear a'
  rename_i K hKK
  suffices hx : ∀ a', AZ w.heap.size a' → K a' (w.alloc (.cells #[.string f, .pointer o, .slice a1 n1 c1, .slice a2 n2 c2, .slice a3 n3 c3, .slice a4 n4 c4, .slice a5 n5 c5, .slice a6 n6 c6, .slice a7 n7 c7, .slice a8 n8 c8, .slice a9 n9 c9] 33)) by
    refine zloop2 w.heap.size _ a2 n2 c2 D2.out H2.out (by omega) _ ?_ ?_ _ ?_ ?_
    · intro a' h; exact hx a' h
    · intro a' h; exact zret (fun e w' => BytesPost n1 n2 n3 n4 n5 n6 n7 n8 n9 e ∧ Below w.heap.size w w') a' _ h ⟨BytesPost.no rfl, hB.out⟩
    · exact ⟨rfl, rfl, rfl, _, by omega, by omega, rfl⟩
    · rfl
  intro a' hA
  refine hKK a' _ ?_
  clear hKK ct2
  obtain ⟨hs, hdf, h2, T3, t3, u3, h5⟩ := hA
  rw [act_lit 665 a' hs hdf]
  generalize slotOf a' = S3 at *
  rw [lit665 S3, h2, h5]
  clear h2 h5 hs hdf
  by_cases cn3 : 1048576 < n3
  · go_wp2
    go_ret
    exact ⟨BytesPost.no rfl, hB.out⟩
  by_cases ct3 : 1048576 < T3 + n3
  · go_wp2
    go_ret
    exact ⟨BytesPost.no rfl, hB.out⟩
  go_wp2
  clear a'
  rename_i K hKK
  suffices hx : ∀ a', AZ w.heap.size a' → K a' (w.alloc (.cells #[.string f, .pointer o, .slice a1 n1 c1, .slice a2 n2 c2, .slice a3 n3 c3, .slice a4 n4 c4, .slice a5 n5 c5, .slice a6 n6 c6, .slice a7 n7 c7, .slice a8 n8 c8, .slice a9 n9 c9] 33)) by
    refine zloop3 w.heap.size _ a3 n3 c3 D3.out H3.out (by omega) _ ?_ ?_ _ ?_ ?_
    · intro a' h; exact hx a' h
    · intro a' h; exact zret (fun e w' => BytesPost n1 n2 n3 n4 n5 n6 n7 n8 n9 e ∧ Below w.heap.size w w') a' _ h ⟨BytesPost.no rfl, hB.out⟩
    · exact ⟨rfl, rfl, rfl, _, by omega, by omega, rfl⟩
    · rfl
  intro a' hA
  refine hKK a' _ ?_
  clear hKK ct3
  obtain ⟨hs, hdf, h2, T4, t4, u4, h5⟩ := hA
  rw [act_lit 665 a' hs hdf]
  generalize slotOf a' = S4 at *
  rw [lit665 S4, h2, h5]
  clear h2 h5 hs hdf
  by_cases cn4 : 1048576 < n4
  · go_wp2
    go_ret
    exact ⟨BytesPost.no rfl, hB.out⟩
  by_cases ct4 : 1048576 < T4 + n4
  · go_wp2
    go_ret
    exact ⟨BytesPost.no rfl, hB.out⟩
  go_wp2
  clear a'
  rename_i K hKK
  suffices hx : ∀ a', AZ w.heap.size a' → K a' (w.alloc (.cells #[.string f, .pointer o, .slice a1 n1 c1, .slice a2 n2 c2, .slice a3 n3 c3, .slice a4 n4 c4, .slice a5 n5 c5, .slice a6 n6 c6, .slice a7 n7 c7, .slice a8 n8 c8, .slice a9 n9 c9] 33)) by
    refine zloop4 w.heap.size _ a4 n4 c4 D4.out H4.out (by omega) _ ?_ ?_ _ ?_ ?_
    · intro a' h; exact hx a' h
    · intro a' h; exact zret (fun e w' => BytesPost n1 n2 n3 n4 n5 n6 n7 n8 n9 e ∧ Below w.heap.size w w') a' _ h ⟨BytesPost.no rfl, hB.out⟩
    · exact ⟨rfl, rfl, rfl, _, by omega, by omega, rfl⟩
    · rfl
  intro a' hA
  refine hKK a' _ ?_
  clear hKK ct4
  obtain ⟨hs, hdf, h2, T5, t5, u5, h5⟩ := hA
  rw [act_lit 665 a' hs hdf]
  generalize slotOf a' = S5 at *
  rw [lit665 S5, h2, h5]
  clear h2 h5 hs hdf
  by_cases cn5 : 1048576 < n5
  · go_wp2
    go_ret
    exact ⟨BytesPost.no rfl, hB.out⟩
  by_cases ct5 : 1048576 < T5 + n5
  · go_wp2
    go_ret
    exact ⟨BytesPost.no rfl, hB.out⟩
  go_wp2
  clear a'
  rename_i K hKK
  suffices hx : ∀ a', AZ w.heap.size a' → K a' (w.alloc (.cells #[.string f, .pointer o, .slice a1 n1 c1, .slice a2 n2 c2, .slice a3 n3 c3, .slice a4 n4 c4, .slice a5 n5 c5, .slice a6 n6 c6, .slice a7 n7 c7, .slice a8 n8 c8, .slice a9 n9 c9] 33)) by
    refine zloop5 w.heap.size _ a5 n5 c5 D5.out H5.out (by omega) _ ?_ ?_ _ ?_ ?_
    · intro a' h; exact hx a' h
    · intro a' h; exact zret (fun e w' => BytesPost n1 n2 n3 n4 n5 n6 n7 n8 n9 e ∧ Below w.heap.size w w') a' _ h ⟨BytesPost.no rfl, hB.out⟩
    · exact ⟨rfl, rfl, rfl, _, by omega, by omega, rfl⟩
    · rfl
  intro a' hA
  refine hKK a' _ ?_
  clear hKK ct5
  obtain ⟨hs, hdf, h2, T6, t6, u6, h5⟩ := hA
  rw [act_lit 665 a' hs hdf]
  generalize slotOf a' = S6 at *
  rw [lit665 S6, h2, h5]
  clear h2 h5 hs hdf
  by_cases cn6 : 1048576 < n6
  · go_wp2
    go_ret
    exact ⟨BytesPost.no rfl, hB.out⟩
  by_cases ct6 : 1048576 < T6 + n6
  · go_wp2
    go_ret
    exact ⟨BytesPost.no rfl, hB.out⟩
  go_wp2
  clear a'
  rename_i K hKK
  suffices hx : ∀ a', AZ w.heap.size a' → K a' (w.alloc (.cells #[.string f, .pointer o, .slice a1 n1 c1, .slice a2 n2 c2, .slice a3 n3 c3, .slice a4 n4 c4, .slice a5 n5 c5, .slice a6 n6 c6, .slice a7 n7 c7, .slice a8 n8 c8, .slice a9 n9 c9] 33)) by
    refine zloop6 w.heap.size _ a6 n6 c6 D6.out H6.out (by omega) _ ?_ ?_ _ ?_ ?_
    · intro a' h; exact hx a' h
    · intro a' h; exact zret (fun e w' => BytesPost n1 n2 n3 n4 n5 n6 n7 n8 n9 e ∧ Below w.heap.size w w') a' _ h ⟨BytesPost.no rfl, hB.out⟩
    · exact ⟨rfl, rfl, rfl, _, by omega, by omega, rfl⟩
    · rfl
  intro a' hA
  refine hKK a' _ ?_
  clear hKK ct6
  obtain ⟨hs, hdf, h2, T7, t7, u7, h5⟩ := hA
  rw [act_lit 665 a' hs hdf]
  generalize slotOf a' = S7 at *
  rw [lit665 S7, h2, h5]
  clear h2 h5 hs hdf
  by_cases cn7 : 1048576 < n7
  · go_wp2
    go_ret
    exact ⟨BytesPost.no rfl, hB.out⟩
  by_cases ct7 : 1048576 < T7 + n7
  · go_wp2
    go_ret
    exact ⟨BytesPost.no rfl, hB.out⟩
  go_wp2
  clear a'
  rename_i K hKK
  suffices hx : ∀ a', AZ w.heap.size a' → K a' (w.alloc (.cells #[.string f, .pointer o, .slice a1 n1 c1, .slice a2 n2 c2, .slice a3 n3 c3, .slice a4 n4 c4, .slice a5 n5 c5, .slice a6 n6 c6, .slice a7 n7 c7, .slice a8 n8 c8, .slice a9 n9 c9] 33)) by
    refine zloop7 w.heap.size _ a7 n7 c7 D7.out H7.out (by omega) _ ?_ ?_ _ ?_ ?_
    · intro a' h; exact hx a' h
    · intro a' h; exact zret (fun e w' => BytesPost n1 n2 n3 n4 n5 n6 n7 n8 n9 e ∧ Below w.heap.size w w') a' _ h ⟨BytesPost.no rfl, hB.out⟩
    · exact ⟨rfl, rfl, rfl, _, by omega, by omega, rfl⟩
    · rfl
  intro a' hA
  refine hKK a' _ ?_
  clear hKK ct7
  obtain ⟨hs, hdf, h2, T8, t8, u8, h5⟩ := hA
  rw [act_lit 665 a' hs hdf]
  generalize slotOf a' = S8 at *
  rw [lit665 S8, h2, h5]
  clear h2 h5 hs hdf
  by_cases cn8 : 1048576 < n8
  · go_wp2
    go_ret
    exact ⟨BytesPost.no rfl, hB.out⟩
  by_cases ct8 : 1048576 < T8 + n8
  · go_wp2
    go_ret
    exact ⟨BytesPost.no rfl, hB.out⟩
  go_wp2
  clear a'
  rename_i K hKK
  suffices hx : ∀ a', AZ w.heap.size a' → K a' (w.alloc (.cells #[.string f, .pointer o, .slice a1 n1 c1, .slice a2 n2 c2, .slice a3 n3 c3, .slice a4 n4 c4, .slice a5 n5 c5, .slice a6 n6 c6, .slice a7 n7 c7, .slice a8 n8 c8, .slice a9 n9 c9] 33)) by
    refine zloop8 w.heap.size _ a8 n8 c8 D8.out H8.out (by omega) _ ?_ ?_ _ ?_ ?_
    · intro a' h; exact hx a' h
    · intro a' h; exact zret (fun e w' => BytesPost n1 n2 n3 n4 n5 n6 n7 n8 n9 e ∧ Below w.heap.size w w') a' _ h ⟨BytesPost.no rfl, hB.out⟩
    · exact ⟨rfl, rfl, rfl, _, by omega, by omega, rfl⟩
    · rfl
  intro a' hA
  refine hKK a' _ ?_
  clear hKK ct8
  obtain ⟨hs, hdf, h2, T9, t9, u9, h5⟩ := hA
  rw [act_lit 665 a' hs hdf]
  generalize slotOf a' = S9 at *
  rw [lit665 S9, h2, h5]
  clear h2 h5 hs hdf
  by_cases cn9 : 1048576 < n9
  · go_wp2
    go_ret
    exact ⟨BytesPost.no rfl, hB.out⟩
  by_cases ct9 : 1048576 < T9 + n9
  · go_wp2
    go_ret
    exact ⟨BytesPost.no rfl, hB.out⟩
  go_wp2
  clear a'
  rename_i K hKK
  suffices hx : ∀ a', AZ w.heap.size a' → K a' (w.alloc (.cells #[.string f, .pointer o, .slice a1 n1 c1, .slice a2 n2 c2, .slice a3 n3 c3, .slice a4 n4 c4, .slice a5 n5 c5, .slice a6 n6 c6, .slice a7 n7 c7, .slice a8 n8 c8, .slice a9 n9 c9] 33)) by
    refine zloop9 w.heap.size _ a9 n9 c9 D9.out H9.out (by omega) _ ?_ ?_ _ ?_ ?_
    · intro a' h; exact hx a' h
    · intro a' h; exact zret (fun e w' => BytesPost n1 n2 n3 n4 n5 n6 n7 n8 n9 e ∧ Below w.heap.size w w') a' _ h ⟨BytesPost.no rfl, hB.out⟩
    · exact ⟨rfl, rfl, rfl, _, by omega, by omega, rfl⟩
    · rfl
  intro a' hA
  refine hKK a' _ ?_
  clear hKK ct9
  obtain ⟨hs, hdf, h2, T, t, u, h5⟩ := hA
  rw [act_lit 665 a' hs hdf]
  generalize slotOf a' = S at *
  rw [lit665 S, h2, h5]
  go_wp2
  go_ret
  exact ⟨⟨true, rfl, fun _ => ⟨by omega, by omega, by omega, by omega, by omega, by omega, by omega, by omega, by omega⟩⟩, hB.out⟩
end Go.Proofs.Qxb6613414a
