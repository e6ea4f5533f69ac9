import Derived.Test.Qxb6613414aBase
namespace Go.Proofs.Qxb6613414a
open Go.RowKit

/-- The frame of zzBytes between two statements: slot 2 leads to the document's box, slot 5 holds the sum so far. -/
def AZ (g : Nat) (a : Act) : Prop := a.tmps.size = 665 ∧ a.defers = [] ∧ slotOf a 2 = .pointer (some ⟨g, 0, none⟩) ∧ ∃ T : Int, 0 ≤ T ∧ T ≤ 1048576 ∧ slotOf a 5 = .int .i64 T
/-- The frame where zzBytes answers no. -/
def RZ (a : Act) : Prop := a.tmps.size = 665 ∧ a.defers = [] ∧ slotOf a 4 = .bool false
/-- A loop's relation, and its measure. -/
def IZ (g n slot : Nat) (W : World) (a : Act) (w : World) : Prop := AZ g a ∧ (∃ k : Nat, k ≤ n ∧ slotOf a slot = .int .i64 k) ∧ w = W
def MU (n slot : Nat) (a : Act) (_ : World) : Nat := n - (intOf (slotOf a slot)).toNat
theorem IZ.step {g n slot k : Nat} {W : World} {a : Act} {T : Int} (hk : k < n) (h1 : a.tmps.size = 665) (h2 : a.defers = []) (h3 : slotOf a 2 = .pointer (some ⟨g, 0, none⟩)) (t0 : 0 ≤ T) (t1 : T ≤ 1048576) (h5 : slotOf a 5 = .int .i64 T)
    (hs : slotOf a slot = .int .i64 (k + 1)) : IZ g n slot W a W ∧ MU n slot a W < n - k := by
  refine ⟨⟨⟨h1, h2, h3, T, t0, t1, h5⟩, ⟨k + 1, hk, by rw [hs]; rfl⟩, rfl⟩, ?_⟩
  unfold MU
  rw [hs]
  simp [intOf]
  omega

set_option maxHeartbeats 4000000 in
set_option maxRecDepth 1000000 in
theorem zround1 (g : Nat) (W : World) (A : Option Addr) (n c : Nat) (hd : W.cell? ⟨g, 2, none⟩ = some (.slice A n c)) (hrow : RowK W [0, 1] A n) (hn : n ≤ 1048576)
    (Q0 : Exit → Act → World → Prop) (hx : ∀ a', AZ g a' → Q0 (.exit 0) a' W) (hr : ∀ a', RZ a' → Q0 .ret a' W)
    (a : Act) (hA : AZ g a) (k : Nat) (hk : k ≤ n) (hi : slotOf a 6 = .int .i64 k) :
    Code.wp Try.prog (sel Try.f4.body 0) (Exit.then (fun a' w' => IZ g n 6 W a' w' ∧ MU n 6 a' w' < n - k) Q0) a W := by
  obtain ⟨hs, hdf, h2, T, hT0, hT1, h5⟩ := hA
  have HROW := hid hrow
  have HX := hid hx
  have HR := hid hr
  rw [act_lit 665 a hs hdf]
  generalize slotOf a = S at *
  rw [lit665 S, h2, h5, hi]
  clear h2 h5 hi hs hdf hrow hx hr
  conv => arg 2; whnf
  rcases Nat.lt_or_ge k n with hlt | hge
  · obtain ⟨b, off, s0, v1, rfl, q0, q1, p1⟩ := RowK.o01 HROW.out k hlt
    clear HROW
    rcases p1 with rfl | ⟨bp, op, sp, rfl, qp⟩
    all_goals
    go_wp2
    all_goals first
      | exact HR.out _ ⟨rfl, rfl, rfl⟩
      | exact IZ.step hlt rfl rfl rfl (by omega) (by omega) rfl rfl
  · have hge' : ¬ k < n := by omega
    go_wp2
    exact HX.out _ ⟨rfl, rfl, rfl, _, hT0, hT1, rfl⟩

set_option maxHeartbeats 4000000 in
set_option maxRecDepth 1000000 in
theorem zround2 (g : Nat) (W : World) (A : Option Addr) (n c : Nat) (hd : W.cell? ⟨g, 3, none⟩ = some (.slice A n c)) (hrow : RowK W [0, 0, 1, 2] A n) (hn : n ≤ 1048576)
    (Q0 : Exit → Act → World → Prop) (hx : ∀ a', AZ g a' → Q0 (.exit 2) a' W) (hr : ∀ a', RZ a' → Q0 .ret a' W)
    (a : Act) (hA : AZ g a) (k : Nat) (hk : k ≤ n) (hi : slotOf a 7 = .int .i64 k) :
    Code.wp Try.prog (sel Try.f4.body 1) (Exit.then (fun a' w' => IZ g n 7 W a' w' ∧ MU n 7 a' w' < n - k) Q0) a W := by
  obtain ⟨hs, hdf, h2, T, hT0, hT1, h5⟩ := hA
  have HROW := hid hrow
  have HX := hid hx
  have HR := hid hr
  rw [act_lit 665 a hs hdf]
  generalize slotOf a = S at *
  rw [lit665 S, h2, h5, hi]
  clear h2 h5 hi hs hdf hrow hx hr
  conv => arg 2; whnf
  rcases Nat.lt_or_ge k n with hlt | hge
  · obtain ⟨b, off, s0, s1, v2, v3, rfl, q0, q1, q2, p2, q3, p3⟩ := RowK.o0012 HROW.out k hlt
    clear HROW
    rcases p2 with rfl | ⟨bp, op, sp, rfl, qp⟩
    all_goals
    go_wp2
    all_goals first
      | exact HR.out _ ⟨rfl, rfl, rfl⟩
      | exact IZ.step hlt rfl rfl rfl (by omega) (by omega) rfl rfl
  · have hge' : ¬ k < n := by omega
    go_wp2
    exact HX.out _ ⟨rfl, rfl, rfl, _, hT0, hT1, rfl⟩

set_option maxHeartbeats 4000000 in
set_option maxRecDepth 1000000 in
theorem zround3 (g : Nat) (W : World) (A : Option Addr) (n c : Nat) (hd : W.cell? ⟨g, 4, none⟩ = some (.slice A n c)) (hrow : RowK W [0, 0] A n) (hn : n ≤ 1048576)
    (Q0 : Exit → Act → World → Prop) (hx : ∀ a', AZ g a' → Q0 (.exit 4) a' W) (hr : ∀ a', RZ a' → Q0 .ret a' W)
    (a : Act) (hA : AZ g a) (k : Nat) (hk : k ≤ n) (hi : slotOf a 8 = .int .i64 k) :
    Code.wp Try.prog (sel Try.f4.body 2) (Exit.then (fun a' w' => IZ g n 8 W a' w' ∧ MU n 8 a' w' < n - k) Q0) a W := by
  obtain ⟨hs, hdf, h2, T, hT0, hT1, h5⟩ := hA
  have HROW := hid hrow
  have HX := hid hx
  have HR := hid hr
  rw [act_lit 665 a hs hdf]
  generalize slotOf a = S at *
  rw [lit665 S, h2, h5, hi]
  clear h2 h5 hi hs hdf hrow hx hr
  conv => arg 2; whnf
  rcases Nat.lt_or_ge k n with hlt | hge
  · obtain ⟨b, off, s0, s1, rfl, q0, q1⟩ := RowK.o00 HROW.out k hlt
    clear HROW
    go_wp2
    all_goals first
      | exact HR.out _ ⟨rfl, rfl, rfl⟩
      | exact IZ.step hlt rfl rfl rfl (by omega) (by omega) rfl rfl
  · have hge' : ¬ k < n := by omega
    go_wp2
    exact HX.out _ ⟨rfl, rfl, rfl, _, hT0, hT1, rfl⟩

set_option maxHeartbeats 4000000 in
set_option maxRecDepth 1000000 in
theorem zround4 (g : Nat) (W : World) (A : Option Addr) (n c : Nat) (hd : W.cell? ⟨g, 5, none⟩ = some (.slice A n c)) (hrow : RowK W [0, 0] A n) (hn : n ≤ 1048576)
    (Q0 : Exit → Act → World → Prop) (hx : ∀ a', AZ g a' → Q0 (.exit 6) a' W) (hr : ∀ a', RZ a' → Q0 .ret a' W)
    (a : Act) (hA : AZ g a) (k : Nat) (hk : k ≤ n) (hi : slotOf a 9 = .int .i64 k) :
    Code.wp Try.prog (sel Try.f4.body 3) (Exit.then (fun a' w' => IZ g n 9 W a' w' ∧ MU n 9 a' w' < n - k) Q0) a W := by
  obtain ⟨hs, hdf, h2, T, hT0, hT1, h5⟩ := hA
  have HROW := hid hrow
  have HX := hid hx
  have HR := hid hr
  rw [act_lit 665 a hs hdf]
  generalize slotOf a = S at *
  rw [lit665 S, h2, h5, hi]
  clear h2 h5 hi hs hdf hrow hx hr
  conv => arg 2; whnf
  rcases Nat.lt_or_ge k n with hlt | hge
  · obtain ⟨b, off, s0, s1, rfl, q0, q1⟩ := RowK.o00 HROW.out k hlt
    clear HROW
    go_wp2
    all_goals first
      | exact HR.out _ ⟨rfl, rfl, rfl⟩
      | exact IZ.step hlt rfl rfl rfl (by omega) (by omega) rfl rfl
  · have hge' : ¬ k < n := by omega
    go_wp2
    exact HX.out _ ⟨rfl, rfl, rfl, _, hT0, hT1, rfl⟩

set_option maxHeartbeats 4000000 in
set_option maxRecDepth 1000000 in
theorem zround5 (g : Nat) (W : World) (A : Option Addr) (n c : Nat) (hd : W.cell? ⟨g, 6, none⟩ = some (.slice A n c)) (hrow : RowK W [0, 0] A n) (hn : n ≤ 1048576)
    (Q0 : Exit → Act → World → Prop) (hx : ∀ a', AZ g a' → Q0 (.exit 8) a' W) (hr : ∀ a', RZ a' → Q0 .ret a' W)
    (a : Act) (hA : AZ g a) (k : Nat) (hk : k ≤ n) (hi : slotOf a 10 = .int .i64 k) :
    Code.wp Try.prog (sel Try.f4.body 4) (Exit.then (fun a' w' => IZ g n 10 W a' w' ∧ MU n 10 a' w' < n - k) Q0) a W := by
  obtain ⟨hs, hdf, h2, T, hT0, hT1, h5⟩ := hA
  have HROW := hid hrow
  have HX := hid hx
  have HR := hid hr
  rw [act_lit 665 a hs hdf]
  generalize slotOf a = S at *
  rw [lit665 S, h2, h5, hi]
  clear h2 h5 hi hs hdf hrow hx hr
  conv => arg 2; whnf
  rcases Nat.lt_or_ge k n with hlt | hge
  · obtain ⟨b, off, s0, s1, rfl, q0, q1⟩ := RowK.o00 HROW.out k hlt
    clear HROW
    go_wp2
    all_goals first
      | exact HR.out _ ⟨rfl, rfl, rfl⟩
      | exact IZ.step hlt rfl rfl rfl (by omega) (by omega) rfl rfl
  · have hge' : ¬ k < n := by omega
    go_wp2
    exact HX.out _ ⟨rfl, rfl, rfl, _, hT0, hT1, rfl⟩

set_option maxHeartbeats 4000000 in
set_option maxRecDepth 1000000 in
theorem zround6 (g : Nat) (W : World) (A : Option Addr) (n c : Nat) (hd : W.cell? ⟨g, 7, none⟩ = some (.slice A n c)) (hrow : RowK W [0, 0] A n) (hn : n ≤ 1048576)
    (Q0 : Exit → Act → World → Prop) (hx : ∀ a', AZ g a' → Q0 (.exit 10) a' W) (hr : ∀ a', RZ a' → Q0 .ret a' W)
    (a : Act) (hA : AZ g a) (k : Nat) (hk : k ≤ n) (hi : slotOf a 11 = .int .i64 k) :
    Code.wp Try.prog (sel Try.f4.body 5) (Exit.then (fun a' w' => IZ g n 11 W a' w' ∧ MU n 11 a' w' < n - k) Q0) a W := by
  obtain ⟨hs, hdf, h2, T, hT0, hT1, h5⟩ := hA
  have HROW := hid hrow
  have HX := hid hx
  have HR := hid hr
  rw [act_lit 665 a hs hdf]
  generalize slotOf a = S at *
  rw [lit665 S, h2, h5, hi]
  clear h2 h5 hi hs hdf hrow hx hr
  conv => arg 2; whnf
  rcases Nat.lt_or_ge k n with hlt | hge
  · obtain ⟨b, off, s0, s1, rfl, q0, q1⟩ := RowK.o00 HROW.out k hlt
    clear HROW
    go_wp2
    all_goals first
      | exact HR.out _ ⟨rfl, rfl, rfl⟩
      | exact IZ.step hlt rfl rfl rfl (by omega) (by omega) rfl rfl
  · have hge' : ¬ k < n := by omega
    go_wp2
    exact HX.out _ ⟨rfl, rfl, rfl, _, hT0, hT1, rfl⟩

set_option maxHeartbeats 4000000 in
set_option maxRecDepth 1000000 in
theorem zround7 (g : Nat) (W : World) (A : Option Addr) (n c : Nat) (hd : W.cell? ⟨g, 8, none⟩ = some (.slice A n c)) (hrow : RowK W [0, 0, 0] A n) (hn : n ≤ 1048576)
    (Q0 : Exit → Act → World → Prop) (hx : ∀ a', AZ g a' → Q0 (.exit 12) a' W) (hr : ∀ a', RZ a' → Q0 .ret a' W)
    (a : Act) (hA : AZ g a) (k : Nat) (hk : k ≤ n) (hi : slotOf a 12 = .int .i64 k) :
    Code.wp Try.prog (sel Try.f4.body 6) (Exit.then (fun a' w' => IZ g n 12 W a' w' ∧ MU n 12 a' w' < n - k) Q0) a W := by
  obtain ⟨hs, hdf, h2, T, hT0, hT1, h5⟩ := hA
  have HROW := hid hrow
  have HX := hid hx
  have HR := hid hr
  rw [act_lit 665 a hs hdf]
  generalize slotOf a = S at *
  rw [lit665 S, h2, h5, hi]
  clear h2 h5 hi hs hdf hrow hx hr
  conv => arg 2; whnf
  rcases Nat.lt_or_ge k n with hlt | hge
  · obtain ⟨b, off, s0, s1, s2, rfl, q0, q1, q2⟩ := RowK.o000 HROW.out k hlt
    clear HROW
    go_wp2
    all_goals first
      | exact HR.out _ ⟨rfl, rfl, rfl⟩
      | exact IZ.step hlt rfl rfl rfl (by omega) (by omega) rfl rfl
  · have hge' : ¬ k < n := by omega
    go_wp2
    exact HX.out _ ⟨rfl, rfl, rfl, _, hT0, hT1, rfl⟩

set_option maxHeartbeats 4000000 in
set_option maxRecDepth 1000000 in
theorem zround8 (g : Nat) (W : World) (A : Option Addr) (n c : Nat) (hd : W.cell? ⟨g, 9, none⟩ = some (.slice A n c)) (hrow : RowK W [0, 0, 0] A n) (hn : n ≤ 1048576)
    (Q0 : Exit → Act → World → Prop) (hx : ∀ a', AZ g a' → Q0 (.exit 14) a' W) (hr : ∀ a', RZ a' → Q0 .ret a' W)
    (a : Act) (hA : AZ g a) (k : Nat) (hk : k ≤ n) (hi : slotOf a 13 = .int .i64 k) :
    Code.wp Try.prog (sel Try.f4.body 7) (Exit.then (fun a' w' => IZ g n 13 W a' w' ∧ MU n 13 a' w' < n - k) Q0) a W := by
  obtain ⟨hs, hdf, h2, T, hT0, hT1, h5⟩ := hA
  have HROW := hid hrow
  have HX := hid hx
  have HR := hid hr
  rw [act_lit 665 a hs hdf]
  generalize slotOf a = S at *
  rw [lit665 S, h2, h5, hi]
  clear h2 h5 hi hs hdf hrow hx hr
  conv => arg 2; whnf
  rcases Nat.lt_or_ge k n with hlt | hge
  · obtain ⟨b, off, s0, s1, s2, rfl, q0, q1, q2⟩ := RowK.o000 HROW.out k hlt
    clear HROW
    go_wp2
    all_goals first
      | exact HR.out _ ⟨rfl, rfl, rfl⟩
      | exact IZ.step hlt rfl rfl rfl (by omega) (by omega) rfl rfl
  · have hge' : ¬ k < n := by omega
    go_wp2
    exact HX.out _ ⟨rfl, rfl, rfl, _, hT0, hT1, rfl⟩

set_option maxHeartbeats 4000000 in
set_option maxRecDepth 1000000 in
theorem zround9 (g : Nat) (W : World) (A : Option Addr) (n c : Nat) (hd : W.cell? ⟨g, 10, none⟩ = some (.slice A n c)) (hrow : RowK W [0, 0, 0] A n) (hn : n ≤ 1048576)
    (Q0 : Exit → Act → World → Prop) (hx : ∀ a', AZ g a' → Q0 (.exit 16) a' W) (hr : ∀ a', RZ a' → Q0 .ret a' W)
    (a : Act) (hA : AZ g a) (k : Nat) (hk : k ≤ n) (hi : slotOf a 14 = .int .i64 k) :
    Code.wp Try.prog (sel Try.f4.body 8) (Exit.then (fun a' w' => IZ g n 14 W a' w' ∧ MU n 14 a' w' < n - k) Q0) a W := by
  obtain ⟨hs, hdf, h2, T, hT0, hT1, h5⟩ := hA
  have HROW := hid hrow
  have HX := hid hx
  have HR := hid hr
  rw [act_lit 665 a hs hdf]
  generalize slotOf a = S at *
  rw [lit665 S, h2, h5, hi]
  clear h2 h5 hi hs hdf hrow hx hr
  conv => arg 2; whnf
  rcases Nat.lt_or_ge k n with hlt | hge
  · obtain ⟨b, off, s0, s1, s2, rfl, q0, q1, q2⟩ := RowK.o000 HROW.out k hlt
    clear HROW
    go_wp2
    all_goals first
      | exact HR.out _ ⟨rfl, rfl, rfl⟩
      | exact IZ.step hlt rfl rfl rfl (by omega) (by omega) rfl rfl
  · have hge' : ¬ k < n := by omega
    go_wp2
    exact HX.out _ ⟨rfl, rfl, rfl, _, hT0, hT1, rfl⟩
end Go.Proofs.Qxb6613414a
