import Derived.Test.Qxb6613414aD1
namespace Go.Proofs.Qxb6613414a
open Go.RowKit

/-- The frame of docBytes between two statements. -/
def AD (g : Nat) (a : Act) : Prop := a.tmps.size = 354 ∧ a.defers = [] ∧ slotOf a 1 = .pointer (some ⟨g, 0, none⟩) ∧ ∃ T : Int, 0 ≤ T ∧ T ≤ 1048577 ∧ slotOf a 3 = .int .i64 T
def ID (g n slot : Nat) (W : World) (a : Act) (w : World) : Prop := AD g a ∧ (∃ k : Nat, k ≤ n ∧ slotOf a slot = .int .i64 k) ∧ w = W
theorem ID.step {g n slot k : Nat} {W : World} {a : Act} {T : Int} (hk : k < n) (h1 : a.tmps.size = 354) (h2 : a.defers = []) (h3 : slotOf a 1 = .pointer (some ⟨g, 0, none⟩)) (t0 : 0 ≤ T) (t1 : T ≤ 1048577) (h5 : slotOf a 3 = .int .i64 T)
    (hs : slotOf a slot = .int .i64 (k + 1)) : ID g n slot W a W ∧ MU n slot a W < n - k := by
  refine ⟨⟨⟨h1, h2, h3, T, t0, t1, h5⟩, ⟨k + 1, hk, by rw [hs]; rfl⟩, rfl⟩, ?_⟩
  unfold MU
  rw [hs]
  simp [intOf]
  omega

set_option maxHeartbeats 4000000 in
set_option maxRecDepth 1000000 in
theorem dround1 (g : Nat) (W : World) (A : Option Addr) (n c : Nat) (hd : W.cell? ⟨g, 2, none⟩ = some (.slice A n c)) (hrow : RowK W [0, 1] A n) (hn : n ≤ 1048576)
    (Q0 : Exit → Act → World → Prop) (hx : ∀ a', AD g a' → Q0 (.exit 0) a' W)
    (a : Act) (hA : AD g a) (k : Nat) (hk : k ≤ n) (hi : slotOf a 4 = .int .i64 k) :
    Code.wp Try.prog (sel Try.f5.body 0) (Exit.then (fun a' w' => ID g n 4 W a' w' ∧ MU n 4 a' w' < n - k) Q0) a W := by
  obtain ⟨hs, hdf, h2, T, hT0, hT1, h5⟩ := hA
  have HROW := hid hrow
  have HX := hid hx
  rw [act_lit 354 a hs hdf]
  generalize slotOf a = S at *
  rw [lit354 S, h2, h5, hi]
  clear h2 h5 hi hs hdf hrow hx
  conv => arg 2; whnf
  rcases Nat.lt_or_ge k n with hlt | hge
  · rcases Int.lt_or_le 1048576 T with hTl | hTl
    · go_wp2
      exact HX.out _ ⟨rfl, rfl, rfl, _, hT0, hT1, rfl⟩
    · obtain ⟨b, off, s0, v1, rfl, q0, q1, p1⟩ := RowK.o01 HROW.out k hlt
      clear HROW
      have P1 := hid p1
      clear p1
      go_wp2_with (first | (go_at_call 11; refine (addStr_any _ _ _ (by omega) (by omega)).mono ?_; rintro e w' ⟨⟨r, rfl, r0, r1⟩, rfl⟩) | (go_at_call 13; refine (addPtr_any _ _ _ (by omega) (by omega) P1.out).mono ?_; rintro e w' ⟨⟨r, rfl, r0, r1⟩, rfl⟩))
      exact ID.step hlt rfl rfl rfl (by omega) (by omega) rfl rfl
  · have hge' : ¬ k < n := by omega
    go_wp2
    exact HX.out _ ⟨rfl, rfl, rfl, _, hT0, hT1, rfl⟩

theorem dloop1 (g : Nat) (W : World) (A : Option Addr) (n c : Nat) (hd : W.cell? ⟨g, 2, none⟩ = some (.slice A n c)) (hrow : RowK W [0, 1] A n) (hn : n ≤ 1048576)
    (Q0 : Exit → Act → World → Prop) (hx : ∀ a', AD g a' → Q0 (.exit 0) a' W)
    (a : Act) (hA : AD g a) (hi : slotOf a 4 = .int .i64 0) : Code.wp Try.prog (Code.loop (sel Try.f5.body 0)) Q0 a W := by
  refine wp_loop (ID g n 4 W) (MU n 4) ⟨hA, ⟨0, Nat.zero_le _, hi⟩, rfl⟩ ?_
  intro a' w' hI
  obtain ⟨hA', ⟨k, hk, hk'⟩, rfl⟩ := hI
  rw [MU_at hk']
  exact dround1 g w' A n c hd hrow hn Q0 hx a' hA' k hk hk'

set_option maxHeartbeats 4000000 in
set_option maxRecDepth 1000000 in
theorem dround2 (g : Nat) (W : World) (A : Option Addr) (n c : Nat) (hd : W.cell? ⟨g, 3, none⟩ = some (.slice A n c)) (hrow : RowK W [0, 0, 1, 2] A n) (hn : n ≤ 1048576)
    (Q0 : Exit → Act → World → Prop) (hx : ∀ a', AD g a' → Q0 (.exit 2) a' W)
    (a : Act) (hA : AD g a) (k : Nat) (hk : k ≤ n) (hi : slotOf a 5 = .int .i64 k) :
    Code.wp Try.prog (sel Try.f5.body 1) (Exit.then (fun a' w' => ID g n 5 W a' w' ∧ MU n 5 a' w' < n - k) Q0) a W := by
  obtain ⟨hs, hdf, h2, T, hT0, hT1, h5⟩ := hA
  have HROW := hid hrow
  have HX := hid hx
  rw [act_lit 354 a hs hdf]
  generalize slotOf a = S at *
  rw [lit354 S, h2, h5, hi]
  clear h2 h5 hi hs hdf hrow hx
  conv => arg 2; whnf
  rcases Nat.lt_or_ge k n with hlt | hge
  · rcases Int.lt_or_le 1048576 T with hTl | hTl
    · go_wp2
      exact HX.out _ ⟨rfl, rfl, rfl, _, hT0, hT1, rfl⟩
    · obtain ⟨b, off, s0, s1, v2, v3, rfl, q0, q1, q2, p2, q3, p3⟩ := RowK.o0012 HROW.out k hlt
      clear HROW
      have P2 := hid p2
      clear p2
      go_wp2_with (first | (go_at_call 11; refine (addStr_any _ _ _ (by omega) (by omega)).mono ?_; rintro e w' ⟨⟨r, rfl, r0, r1⟩, rfl⟩) | (go_at_call 13; refine (addPtr_any _ _ _ (by omega) (by omega) P2.out).mono ?_; rintro e w' ⟨⟨r, rfl, r0, r1⟩, rfl⟩))
      exact ID.step hlt rfl rfl rfl (by omega) (by omega) rfl rfl
  · have hge' : ¬ k < n := by omega
    go_wp2
    exact HX.out _ ⟨rfl, rfl, rfl, _, hT0, hT1, rfl⟩

theorem dloop2 (g : Nat) (W : World) (A : Option Addr) (n c : Nat) (hd : W.cell? ⟨g, 3, none⟩ = some (.slice A n c)) (hrow : RowK W [0, 0, 1, 2] A n) (hn : n ≤ 1048576)
    (Q0 : Exit → Act → World → Prop) (hx : ∀ a', AD g a' → Q0 (.exit 2) a' W)
    (a : Act) (hA : AD g a) (hi : slotOf a 5 = .int .i64 0) : Code.wp Try.prog (Code.loop (sel Try.f5.body 1)) Q0 a W := by
  refine wp_loop (ID g n 5 W) (MU n 5) ⟨hA, ⟨0, Nat.zero_le _, hi⟩, rfl⟩ ?_
  intro a' w' hI
  obtain ⟨hA', ⟨k, hk, hk'⟩, rfl⟩ := hI
  rw [MU_at hk']
  exact dround2 g w' A n c hd hrow hn Q0 hx a' hA' k hk hk'

set_option maxHeartbeats 4000000 in
set_option maxRecDepth 1000000 in
theorem dround3 (g : Nat) (W : World) (A : Option Addr) (n c : Nat) (hd : W.cell? ⟨g, 4, none⟩ = some (.slice A n c)) (hrow : RowK W [0, 0] A n) (hn : n ≤ 1048576)
    (Q0 : Exit → Act → World → Prop) (hx : ∀ a', AD g a' → Q0 (.exit 4) a' W)
    (a : Act) (hA : AD g a) (k : Nat) (hk : k ≤ n) (hi : slotOf a 6 = .int .i64 k) :
    Code.wp Try.prog (sel Try.f5.body 2) (Exit.then (fun a' w' => ID g n 6 W a' w' ∧ MU n 6 a' w' < n - k) Q0) a W := by
  obtain ⟨hs, hdf, h2, T, hT0, hT1, h5⟩ := hA
  have HROW := hid hrow
  have HX := hid hx
  rw [act_lit 354 a hs hdf]
  generalize slotOf a = S at *
  rw [lit354 S, h2, h5, hi]
  clear h2 h5 hi hs hdf hrow hx
  conv => arg 2; whnf
  rcases Nat.lt_or_ge k n with hlt | hge
  · rcases Int.lt_or_le 1048576 T with hTl | hTl
    · go_wp2
      exact HX.out _ ⟨rfl, rfl, rfl, _, hT0, hT1, rfl⟩
    · obtain ⟨b, off, s0, s1, rfl, q0, q1⟩ := RowK.o00 HROW.out k hlt
      clear HROW
      go_wp2_with (first | (go_at_call 11; refine (addStr_any _ _ _ (by omega) (by omega)).mono ?_; rintro e w' ⟨⟨r, rfl, r0, r1⟩, rfl⟩))
      exact ID.step hlt rfl rfl rfl (by omega) (by omega) rfl rfl
  · have hge' : ¬ k < n := by omega
    go_wp2
    exact HX.out _ ⟨rfl, rfl, rfl, _, hT0, hT1, rfl⟩

theorem dloop3 (g : Nat) (W : World) (A : Option Addr) (n c : Nat) (hd : W.cell? ⟨g, 4, none⟩ = some (.slice A n c)) (hrow : RowK W [0, 0] A n) (hn : n ≤ 1048576)
    (Q0 : Exit → Act → World → Prop) (hx : ∀ a', AD g a' → Q0 (.exit 4) a' W)
    (a : Act) (hA : AD g a) (hi : slotOf a 6 = .int .i64 0) : Code.wp Try.prog (Code.loop (sel Try.f5.body 2)) Q0 a W := by
  refine wp_loop (ID g n 6 W) (MU n 6) ⟨hA, ⟨0, Nat.zero_le _, hi⟩, rfl⟩ ?_
  intro a' w' hI
  obtain ⟨hA', ⟨k, hk, hk'⟩, rfl⟩ := hI
  rw [MU_at hk']
  exact dround3 g w' A n c hd hrow hn Q0 hx a' hA' k hk hk'

set_option maxHeartbeats 4000000 in
set_option maxRecDepth 1000000 in
theorem dround4 (g : Nat) (W : World) (A : Option Addr) (n c : Nat) (hd : W.cell? ⟨g, 5, none⟩ = some (.slice A n c)) (hrow : RowK W [0, 0] A n) (hn : n ≤ 1048576)
    (Q0 : Exit → Act → World → Prop) (hx : ∀ a', AD g a' → Q0 (.exit 6) a' W)
    (a : Act) (hA : AD g a) (k : Nat) (hk : k ≤ n) (hi : slotOf a 7 = .int .i64 k) :
    Code.wp Try.prog (sel Try.f5.body 3) (Exit.then (fun a' w' => ID g n 7 W a' w' ∧ MU n 7 a' w' < n - k) Q0) a W := by
  obtain ⟨hs, hdf, h2, T, hT0, hT1, h5⟩ := hA
  have HROW := hid hrow
  have HX := hid hx
  rw [act_lit 354 a hs hdf]
  generalize slotOf a = S at *
  rw [lit354 S, h2, h5, hi]
  clear h2 h5 hi hs hdf hrow hx
  conv => arg 2; whnf
  rcases Nat.lt_or_ge k n with hlt | hge
  · rcases Int.lt_or_le 1048576 T with hTl | hTl
    · go_wp2
      exact HX.out _ ⟨rfl, rfl, rfl, _, hT0, hT1, rfl⟩
    · obtain ⟨b, off, s0, s1, rfl, q0, q1⟩ := RowK.o00 HROW.out k hlt
      clear HROW
      go_wp2_with (first | (go_at_call 11; refine (addStr_any _ _ _ (by omega) (by omega)).mono ?_; rintro e w' ⟨⟨r, rfl, r0, r1⟩, rfl⟩))
      exact ID.step hlt rfl rfl rfl (by omega) (by omega) rfl rfl
  · have hge' : ¬ k < n := by omega
    go_wp2
    exact HX.out _ ⟨rfl, rfl, rfl, _, hT0, hT1, rfl⟩

theorem dloop4 (g : Nat) (W : World) (A : Option Addr) (n c : Nat) (hd : W.cell? ⟨g, 5, none⟩ = some (.slice A n c)) (hrow : RowK W [0, 0] A n) (hn : n ≤ 1048576)
    (Q0 : Exit → Act → World → Prop) (hx : ∀ a', AD g a' → Q0 (.exit 6) a' W)
    (a : Act) (hA : AD g a) (hi : slotOf a 7 = .int .i64 0) : Code.wp Try.prog (Code.loop (sel Try.f5.body 3)) Q0 a W := by
  refine wp_loop (ID g n 7 W) (MU n 7) ⟨hA, ⟨0, Nat.zero_le _, hi⟩, rfl⟩ ?_
  intro a' w' hI
  obtain ⟨hA', ⟨k, hk, hk'⟩, rfl⟩ := hI
  rw [MU_at hk']
  exact dround4 g w' A n c hd hrow hn Q0 hx a' hA' k hk hk'

set_option maxHeartbeats 4000000 in
set_option maxRecDepth 1000000 in
theorem dround5 (g : Nat) (W : World) (A : Option Addr) (n c : Nat) (hd : W.cell? ⟨g, 6, none⟩ = some (.slice A n c)) (hrow : RowK W [0, 0] A n) (hn : n ≤ 1048576)
    (Q0 : Exit → Act → World → Prop) (hx : ∀ a', AD g a' → Q0 (.exit 8) a' W)
    (a : Act) (hA : AD g a) (k : Nat) (hk : k ≤ n) (hi : slotOf a 8 = .int .i64 k) :
    Code.wp Try.prog (sel Try.f5.body 4) (Exit.then (fun a' w' => ID g n 8 W a' w' ∧ MU n 8 a' w' < n - k) Q0) a W := by
  obtain ⟨hs, hdf, h2, T, hT0, hT1, h5⟩ := hA
  have HROW := hid hrow
  have HX := hid hx
  rw [act_lit 354 a hs hdf]
  generalize slotOf a = S at *
  rw [lit354 S, h2, h5, hi]
  clear h2 h5 hi hs hdf hrow hx
  conv => arg 2; whnf
  rcases Nat.lt_or_ge k n with hlt | hge
  · rcases Int.lt_or_le 1048576 T with hTl | hTl
    · go_wp2
      exact HX.out _ ⟨rfl, rfl, rfl, _, hT0, hT1, rfl⟩
    · obtain ⟨b, off, s0, s1, rfl, q0, q1⟩ := RowK.o00 HROW.out k hlt
      clear HROW
      go_wp2_with (first | (go_at_call 11; refine (addStr_any _ _ _ (by omega) (by omega)).mono ?_; rintro e w' ⟨⟨r, rfl, r0, r1⟩, rfl⟩))
      exact ID.step hlt rfl rfl rfl (by omega) (by omega) rfl rfl
  · have hge' : ¬ k < n := by omega
    go_wp2
    exact HX.out _ ⟨rfl, rfl, rfl, _, hT0, hT1, rfl⟩

theorem dloop5 (g : Nat) (W : World) (A : Option Addr) (n c : Nat) (hd : W.cell? ⟨g, 6, none⟩ = some (.slice A n c)) (hrow : RowK W [0, 0] A n) (hn : n ≤ 1048576)
    (Q0 : Exit → Act → World → Prop) (hx : ∀ a', AD g a' → Q0 (.exit 8) a' W)
    (a : Act) (hA : AD g a) (hi : slotOf a 8 = .int .i64 0) : Code.wp Try.prog (Code.loop (sel Try.f5.body 4)) Q0 a W := by
  refine wp_loop (ID g n 8 W) (MU n 8) ⟨hA, ⟨0, Nat.zero_le _, hi⟩, rfl⟩ ?_
  intro a' w' hI
  obtain ⟨hA', ⟨k, hk, hk'⟩, rfl⟩ := hI
  rw [MU_at hk']
  exact dround5 g w' A n c hd hrow hn Q0 hx a' hA' k hk hk'

set_option maxHeartbeats 4000000 in
set_option maxRecDepth 1000000 in
theorem dround6 (g : Nat) (W : World) (A : Option Addr) (n c : Nat) (hd : W.cell? ⟨g, 7, none⟩ = some (.slice A n c)) (hrow : RowK W [0, 0] A n) (hn : n ≤ 1048576)
    (Q0 : Exit → Act → World → Prop) (hx : ∀ a', AD g a' → Q0 (.exit 10) a' W)
    (a : Act) (hA : AD g a) (k : Nat) (hk : k ≤ n) (hi : slotOf a 9 = .int .i64 k) :
    Code.wp Try.prog (sel Try.f5.body 5) (Exit.then (fun a' w' => ID g n 9 W a' w' ∧ MU n 9 a' w' < n - k) Q0) a W := by
  obtain ⟨hs, hdf, h2, T, hT0, hT1, h5⟩ := hA
  have HROW := hid hrow
  have HX := hid hx
  rw [act_lit 354 a hs hdf]
  generalize slotOf a = S at *
  rw [lit354 S, h2, h5, hi]
  clear h2 h5 hi hs hdf hrow hx
  conv => arg 2; whnf
  rcases Nat.lt_or_ge k n with hlt | hge
  · rcases Int.lt_or_le 1048576 T with hTl | hTl
    · go_wp2
      exact HX.out _ ⟨rfl, rfl, rfl, _, hT0, hT1, rfl⟩
    · obtain ⟨b, off, s0, s1, rfl, q0, q1⟩ := RowK.o00 HROW.out k hlt
      clear HROW
      go_wp2_with (first | (go_at_call 11; refine (addStr_any _ _ _ (by omega) (by omega)).mono ?_; rintro e w' ⟨⟨r, rfl, r0, r1⟩, rfl⟩))
      exact ID.step hlt rfl rfl rfl (by omega) (by omega) rfl rfl
  · have hge' : ¬ k < n := by omega
    go_wp2
    exact HX.out _ ⟨rfl, rfl, rfl, _, hT0, hT1, rfl⟩

theorem dloop6 (g : Nat) (W : World) (A : Option Addr) (n c : Nat) (hd : W.cell? ⟨g, 7, none⟩ = some (.slice A n c)) (hrow : RowK W [0, 0] A n) (hn : n ≤ 1048576)
    (Q0 : Exit → Act → World → Prop) (hx : ∀ a', AD g a' → Q0 (.exit 10) a' W)
    (a : Act) (hA : AD g a) (hi : slotOf a 9 = .int .i64 0) : Code.wp Try.prog (Code.loop (sel Try.f5.body 5)) Q0 a W := by
  refine wp_loop (ID g n 9 W) (MU n 9) ⟨hA, ⟨0, Nat.zero_le _, hi⟩, rfl⟩ ?_
  intro a' w' hI
  obtain ⟨hA', ⟨k, hk, hk'⟩, rfl⟩ := hI
  rw [MU_at hk']
  exact dround6 g w' A n c hd hrow hn Q0 hx a' hA' k hk hk'

set_option maxHeartbeats 4000000 in
set_option maxRecDepth 1000000 in
theorem dround7 (g : Nat) (W : World) (A : Option Addr) (n c : Nat) (hd : W.cell? ⟨g, 8, none⟩ = some (.slice A n c)) (hrow : RowK W [0, 0, 0] A n) (hn : n ≤ 1048576)
    (Q0 : Exit → Act → World → Prop) (hx : ∀ a', AD g a' → Q0 (.exit 12) a' W)
    (a : Act) (hA : AD g a) (k : Nat) (hk : k ≤ n) (hi : slotOf a 10 = .int .i64 k) :
    Code.wp Try.prog (sel Try.f5.body 6) (Exit.then (fun a' w' => ID g n 10 W a' w' ∧ MU n 10 a' w' < n - k) Q0) a W := by
  obtain ⟨hs, hdf, h2, T, hT0, hT1, h5⟩ := hA
  have HROW := hid hrow
  have HX := hid hx
  rw [act_lit 354 a hs hdf]
  generalize slotOf a = S at *
  rw [lit354 S, h2, h5, hi]
  clear h2 h5 hi hs hdf hrow hx
  conv => arg 2; whnf
  rcases Nat.lt_or_ge k n with hlt | hge
  · rcases Int.lt_or_le 1048576 T with hTl | hTl
    · go_wp2
      exact HX.out _ ⟨rfl, rfl, rfl, _, hT0, hT1, rfl⟩
    · obtain ⟨b, off, s0, s1, s2, rfl, q0, q1, q2⟩ := RowK.o000 HROW.out k hlt
      clear HROW
      go_wp2_with (first | (go_at_call 11; refine (addStr_any _ _ _ (by omega) (by omega)).mono ?_; rintro e w' ⟨⟨r, rfl, r0, r1⟩, rfl⟩))
      exact ID.step hlt rfl rfl rfl (by omega) (by omega) rfl rfl
  · have hge' : ¬ k < n := by omega
    go_wp2
    exact HX.out _ ⟨rfl, rfl, rfl, _, hT0, hT1, rfl⟩

theorem dloop7 (g : Nat) (W : World) (A : Option Addr) (n c : Nat) (hd : W.cell? ⟨g, 8, none⟩ = some (.slice A n c)) (hrow : RowK W [0, 0, 0] A n) (hn : n ≤ 1048576)
    (Q0 : Exit → Act → World → Prop) (hx : ∀ a', AD g a' → Q0 (.exit 12) a' W)
    (a : Act) (hA : AD g a) (hi : slotOf a 10 = .int .i64 0) : Code.wp Try.prog (Code.loop (sel Try.f5.body 6)) Q0 a W := by
  refine wp_loop (ID g n 10 W) (MU n 10) ⟨hA, ⟨0, Nat.zero_le _, hi⟩, rfl⟩ ?_
  intro a' w' hI
  obtain ⟨hA', ⟨k, hk, hk'⟩, rfl⟩ := hI
  rw [MU_at hk']
  exact dround7 g w' A n c hd hrow hn Q0 hx a' hA' k hk hk'

set_option maxHeartbeats 4000000 in
set_option maxRecDepth 1000000 in
theorem dround8 (g : Nat) (W : World) (A : Option Addr) (n c : Nat) (hd : W.cell? ⟨g, 9, none⟩ = some (.slice A n c)) (hrow : RowK W [0, 0, 0] A n) (hn : n ≤ 1048576)
    (Q0 : Exit → Act → World → Prop) (hx : ∀ a', AD g a' → Q0 (.exit 14) a' W)
    (a : Act) (hA : AD g a) (k : Nat) (hk : k ≤ n) (hi : slotOf a 11 = .int .i64 k) :
    Code.wp Try.prog (sel Try.f5.body 7) (Exit.then (fun a' w' => ID g n 11 W a' w' ∧ MU n 11 a' w' < n - k) Q0) a W := by
  obtain ⟨hs, hdf, h2, T, hT0, hT1, h5⟩ := hA
  have HROW := hid hrow
  have HX := hid hx
  rw [act_lit 354 a hs hdf]
  generalize slotOf a = S at *
  rw [lit354 S, h2, h5, hi]
  clear h2 h5 hi hs hdf hrow hx
  conv => arg 2; whnf
  rcases Nat.lt_or_ge k n with hlt | hge
  · rcases Int.lt_or_le 1048576 T with hTl | hTl
    · go_wp2
      exact HX.out _ ⟨rfl, rfl, rfl, _, hT0, hT1, rfl⟩
    · obtain ⟨b, off, s0, s1, s2, rfl, q0, q1, q2⟩ := RowK.o000 HROW.out k hlt
      clear HROW
      go_wp2_with (first | (go_at_call 11; refine (addStr_any _ _ _ (by omega) (by omega)).mono ?_; rintro e w' ⟨⟨r, rfl, r0, r1⟩, rfl⟩))
      exact ID.step hlt rfl rfl rfl (by omega) (by omega) rfl rfl
  · have hge' : ¬ k < n := by omega
    go_wp2
    exact HX.out _ ⟨rfl, rfl, rfl, _, hT0, hT1, rfl⟩

theorem dloop8 (g : Nat) (W : World) (A : Option Addr) (n c : Nat) (hd : W.cell? ⟨g, 9, none⟩ = some (.slice A n c)) (hrow : RowK W [0, 0, 0] A n) (hn : n ≤ 1048576)
    (Q0 : Exit → Act → World → Prop) (hx : ∀ a', AD g a' → Q0 (.exit 14) a' W)
    (a : Act) (hA : AD g a) (hi : slotOf a 11 = .int .i64 0) : Code.wp Try.prog (Code.loop (sel Try.f5.body 7)) Q0 a W := by
  refine wp_loop (ID g n 11 W) (MU n 11) ⟨hA, ⟨0, Nat.zero_le _, hi⟩, rfl⟩ ?_
  intro a' w' hI
  obtain ⟨hA', ⟨k, hk, hk'⟩, rfl⟩ := hI
  rw [MU_at hk']
  exact dround8 g w' A n c hd hrow hn Q0 hx a' hA' k hk hk'

set_option maxHeartbeats 4000000 in
set_option maxRecDepth 1000000 in
theorem dround9 (g : Nat) (W : World) (A : Option Addr) (n c : Nat) (hd : W.cell? ⟨g, 10, none⟩ = some (.slice A n c)) (hrow : RowK W [0, 0, 0] A n) (hn : n ≤ 1048576)
    (Q0 : Exit → Act → World → Prop) (hx : ∀ a', AD g a' → Q0 (.exit 16) a' W)
    (a : Act) (hA : AD g a) (k : Nat) (hk : k ≤ n) (hi : slotOf a 12 = .int .i64 k) :
    Code.wp Try.prog (sel Try.f5.body 8) (Exit.then (fun a' w' => ID g n 12 W a' w' ∧ MU n 12 a' w' < n - k) Q0) a W := by
  obtain ⟨hs, hdf, h2, T, hT0, hT1, h5⟩ := hA
  have HROW := hid hrow
  have HX := hid hx
  rw [act_lit 354 a hs hdf]
  generalize slotOf a = S at *
  rw [lit354 S, h2, h5, hi]
  clear h2 h5 hi hs hdf hrow hx
  conv => arg 2; whnf
  rcases Nat.lt_or_ge k n with hlt | hge
  · rcases Int.lt_or_le 1048576 T with hTl | hTl
    · go_wp2
      exact HX.out _ ⟨rfl, rfl, rfl, _, hT0, hT1, rfl⟩
    · obtain ⟨b, off, s0, s1, s2, rfl, q0, q1, q2⟩ := RowK.o000 HROW.out k hlt
      clear HROW
      go_wp2_with (first | (go_at_call 11; refine (addStr_any _ _ _ (by omega) (by omega)).mono ?_; rintro e w' ⟨⟨r, rfl, r0, r1⟩, rfl⟩))
      exact ID.step hlt rfl rfl rfl (by omega) (by omega) rfl rfl
  · have hge' : ¬ k < n := by omega
    go_wp2
    exact HX.out _ ⟨rfl, rfl, rfl, _, hT0, hT1, rfl⟩

theorem dloop9 (g : Nat) (W : World) (A : Option Addr) (n c : Nat) (hd : W.cell? ⟨g, 10, none⟩ = some (.slice A n c)) (hrow : RowK W [0, 0, 0] A n) (hn : n ≤ 1048576)
    (Q0 : Exit → Act → World → Prop) (hx : ∀ a', AD g a' → Q0 (.exit 16) a' W)
    (a : Act) (hA : AD g a) (hi : slotOf a 12 = .int .i64 0) : Code.wp Try.prog (Code.loop (sel Try.f5.body 8)) Q0 a W := by
  refine wp_loop (ID g n 12 W) (MU n 12) ⟨hA, ⟨0, Nat.zero_le _, hi⟩, rfl⟩ ?_
  intro a' w' hI
  obtain ⟨hA', ⟨k, hk, hk'⟩, rfl⟩ := hI
  rw [MU_at hk']
  exact dround9 g w' A n c hd hrow hn Q0 hx a' hA' k hk hk'

set_option maxHeartbeats 8000000 in
set_option maxRecDepth 1000000 in
theorem docBytes_any (f : ByteArray) (o : Option Addr) (a1 a2 a3 a4 a5 a6 a7 a8 a9 : Option Addr) (n1 n2 n3 n4 n5 n6 n7 n8 n9 c1 c2 c3 c4 c5 c6 c7 c8 c9 : Nat) (w : World) (hdoc : DocOk w f o a1 a2 a3 a4 a5 a6 a7 a8 a9 n1 n2 n3 n4 n5 n6 n7 n8 n9 c1 c2 c3 c4 c5 c6 c7 c8 c9) (m1 : n1 ≤ 1048576) (m2 : n2 ≤ 1048576) (m3 : n3 ≤ 1048576) (m4 : n4 ≤ 1048576) (m5 : n5 ≤ 1048576) (m6 : n6 ≤ 1048576) (m7 : n7 ≤ 1048576) (m8 : n8 ≤ 1048576) (m9 : n9 ≤ 1048576) :
    Calls Try.prog 5 #[.agg #[.string f, .pointer o, .slice a1 n1 c1, .slice a2 n2 c2, .slice a3 n3 c3, .slice a4 n4 c4, .slice a5 n5 c5, .slice a6 n6 c6, .slice a7 n7 c7, .slice a8 n8 c8, .slice a9 n9 c9]] w fun e w' => IntPost e ∧ Below w.heap.size w w' := by
  obtain ⟨hlf, horg, ⟨h1, l1, _⟩, ⟨h2, l2, _⟩, ⟨h3, l3, _⟩, ⟨h4, l4, _⟩, ⟨h5, l5, _⟩, ⟨h6, l6, _⟩, ⟨h7, l7, _⟩, ⟨h8, l8, _⟩, ⟨h9, l9, _⟩⟩ := hdoc
  unfold maxLen at *
  have hB := hid ((Below.refl w.heap.size w).alloc (Nat.le_refl _) (.cells #[.string f, .pointer o, .slice a1 n1 c1, .slice a2 n2 c2, .slice a3 n3 c3, .slice a4 n4 c4, .slice a5 n5 c5, .slice a6 n6 c6, .slice a7 n7 c7, .slice a8 n8 c8, .slice a9 n9 c9] 33))
  have HO := hid (horg.below hB.out)
  have H1 := hid (h1.below hB.out)
  have H2 := hid (h2.below hB.out)
  have H3 := hid (h3.below hB.out)
  have H4 := hid (h4.below hB.out)
  have H5 := hid (h5.below hB.out)
  have H6 := hid (h6.below hB.out)
  have H7 := hid (h7.below hB.out)
  have H8 := hid (h8.below hB.out)
  have H9 := hid (h9.below hB.out)
  clear horg h1 l1 h2 l2 h3 l3 h4 l4 h5 l5 h6 l6 h7 l7 h8 l8 h9 l9
  have D1 : Hid ((w.alloc (.cells #[.string f, .pointer o, .slice a1 n1 c1, .slice a2 n2 c2, .slice a3 n3 c3, .slice a4 n4 c4, .slice a5 n5 c5, .slice a6 n6 c6, .slice a7 n7 c7, .slice a8 n8 c8, .slice a9 n9 c9] 33)).cell? ⟨w.heap.size, 2, none⟩ = some (.slice a1 n1 c1)) := hid (by simp)
  have D2 : Hid ((w.alloc (.cells #[.string f, .pointer o, .slice a1 n1 c1, .slice a2 n2 c2, .slice a3 n3 c3, .slice a4 n4 c4, .slice a5 n5 c5, .slice a6 n6 c6, .slice a7 n7 c7, .slice a8 n8 c8, .slice a9 n9 c9] 33)).cell? ⟨w.heap.size, 3, none⟩ = some (.slice a2 n2 c2)) := hid (by simp)
  have D3 : Hid ((w.alloc (.cells #[.string f, .pointer o, .slice a1 n1 c1, .slice a2 n2 c2, .slice a3 n3 c3, .slice a4 n4 c4, .slice a5 n5 c5, .slice a6 n6 c6, .slice a7 n7 c7, .slice a8 n8 c8, .slice a9 n9 c9] 33)).cell? ⟨w.heap.size, 4, none⟩ = some (.slice a3 n3 c3)) := hid (by simp)
  have D4 : Hid ((w.alloc (.cells #[.string f, .pointer o, .slice a1 n1 c1, .slice a2 n2 c2, .slice a3 n3 c3, .slice a4 n4 c4, .slice a5 n5 c5, .slice a6 n6 c6, .slice a7 n7 c7, .slice a8 n8 c8, .slice a9 n9 c9] 33)).cell? ⟨w.heap.size, 5, none⟩ = some (.slice a4 n4 c4)) := hid (by simp)
  have D5 : Hid ((w.alloc (.cells #[.string f, .pointer o, .slice a1 n1 c1, .slice a2 n2 c2, .slice a3 n3 c3, .slice a4 n4 c4, .slice a5 n5 c5, .slice a6 n6 c6, .slice a7 n7 c7, .slice a8 n8 c8, .slice a9 n9 c9] 33)).cell? ⟨w.heap.size, 6, none⟩ = some (.slice a5 n5 c5)) := hid (by simp)
  have D6 : Hid ((w.alloc (.cells #[.string f, .pointer o, .slice a1 n1 c1, .slice a2 n2 c2, .slice a3 n3 c3, .slice a4 n4 c4, .slice a5 n5 c5, .slice a6 n6 c6, .slice a7 n7 c7, .slice a8 n8 c8, .slice a9 n9 c9] 33)).cell? ⟨w.heap.size, 7, none⟩ = some (.slice a6 n6 c6)) := hid (by simp)
  have D7 : Hid ((w.alloc (.cells #[.string f, .pointer o, .slice a1 n1 c1, .slice a2 n2 c2, .slice a3 n3 c3, .slice a4 n4 c4, .slice a5 n5 c5, .slice a6 n6 c6, .slice a7 n7 c7, .slice a8 n8 c8, .slice a9 n9 c9] 33)).cell? ⟨w.heap.size, 8, none⟩ = some (.slice a7 n7 c7)) := hid (by simp)
  have D8 : Hid ((w.alloc (.cells #[.string f, .pointer o, .slice a1 n1 c1, .slice a2 n2 c2, .slice a3 n3 c3, .slice a4 n4 c4, .slice a5 n5 c5, .slice a6 n6 c6, .slice a7 n7 c7, .slice a8 n8 c8, .slice a9 n9 c9] 33)).cell? ⟨w.heap.size, 9, none⟩ = some (.slice a8 n8 c8)) := hid (by simp)
  have D9 : Hid ((w.alloc (.cells #[.string f, .pointer o, .slice a1 n1 c1, .slice a2 n2 c2, .slice a3 n3 c3, .slice a4 n4 c4, .slice a5 n5 c5, .slice a6 n6 c6, .slice a7 n7 c7, .slice a8 n8 c8, .slice a9 n9 c9] 33)).cell? ⟨w.heap.size, 10, none⟩ = some (.slice a9 n9 c9)) := hid (by simp)
  go_enter Try.func5, Try.ntmps5
  go_upto_if 18 with (go_at_call 11; refine (addStr_any _ _ _ (by omega) (by omega)).mono ?_; rintro e w' ⟨⟨r, rfl, r0, r1⟩, rfl⟩)
  rename_i K hKK
  suffices hx : ∀ a', AD w.heap.size a' → K a' (w.alloc (.cells #[.string f, .pointer o, .slice a1 n1 c1, .slice a2 n2 c2, .slice a3 n3 c3, .slice a4 n4 c4, .slice a5 n5 c5, .slice a6 n6 c6, .slice a7 n7 c7, .slice a8 n8 c8, .slice a9 n9 c9] 33)) by
    have HX := hid hx
    rcases HO.out with rfl | ⟨b, off, s, t, rfl, q1, q2⟩
    · clear hx hKK HO H1 D1 H2 D2 H3 D3 H4 D4 H5 D5 H6 D6 H7 D7 H8 D8 H9 D9
      go_wp2
      exact HX.out _ ⟨rfl, rfl, rfl, _, by omega, by omega, rfl⟩
    · clear hx hKK HO H1 D1 H2 D2 H3 D3 H4 D4 H5 D5 H6 D6 H7 D7 H8 D8 H9 D9
      go_wp2_with (go_at_call 11; refine (addStr_any _ _ _ (by omega) (by omega)).mono ?_; rintro e w' ⟨⟨r, rfl, r0, r1⟩, rfl⟩)
      exact HX.out _ ⟨rfl, rfl, rfl, _, by omega, by omega, rfl⟩
  intro a' hA
  refine hKK a' _ ?_
  clear hKK
  obtain ⟨hs, hdf, h2, T1, t1, u1, h5⟩ := hA
  rw [act_lit 354 a' hs hdf]
  generalize slotOf a' = S1 at *
  rw [lit354 S1, h2, h5]
  clear h2 h5 hs hdf
  go_wp2_with (go_at_call 12; refine (addWords24 _ n1 _ t1 u1).mono ?_; rintro e w' ⟨⟨r, rfl, r0, r1⟩, rfl⟩)
  clear a'
  rename_i K hKK
  suffices hx : ∀ a', AD w.heap.size a' → K a' (w.alloc (.cells #[.string f, .pointer o, .slice a1 n1 c1, .slice a2 n2 c2, .slice a3 n3 c3, .slice a4 n4 c4, .slice a5 n5 c5, .slice a6 n6 c6, .slice a7 n7 c7, .slice a8 n8 c8, .slice a9 n9 c9] 33)) by
    refine dloop1 w.heap.size _ a1 n1 c1 D1.out H1.out (by omega) _ ?_ _ ?_ ?_
    · intro a' h; exact hx a' h
    · exact ⟨rfl, rfl, rfl, _, by omega, by omega, rfl⟩
    · rfl
  intro a' hA
  refine hKK a' _ ?_
  clear hKK
  obtain ⟨hs, hdf, h2, T2, t2, u2, h5⟩ := hA
  rw [act_lit 354 a' hs hdf]
  generalize slotOf a' = S2 at *
  rw [lit354 S2, h2, h5]
  clear h2 h5 hs hdf
  go_wp2_with (go_at_call 12; refine (addWords48 _ n2 _ t2 u2).mono ?_; rintro e w' ⟨⟨r, rfl, r0, r1⟩, rfl⟩)
  clear a'
  rename_i K hKK
  suffices hx : ∀ a', AD w.heap.size a' → K a' (w.alloc (.cells #[.string f, .pointer o, .slice a1 n1 c1, .slice a2 n2 c2, .slice a3 n3 c3, .slice a4 n4 c4, .slice a5 n5 c5, .slice a6 n6 c6, .slice a7 n7 c7, .slice a8 n8 c8, .slice a9 n9 c9] 33)) by
    refine dloop2 w.heap.size _ a2 n2 c2 D2.out H2.out (by omega) _ ?_ _ ?_ ?_
    · intro a' h; exact hx a' h
    · exact ⟨rfl, rfl, rfl, _, by omega, by omega, rfl⟩
    · rfl
  intro a' hA
  refine hKK a' _ ?_
  clear hKK
  obtain ⟨hs, hdf, h2, T3, t3, u3, h5⟩ := hA
  rw [act_lit 354 a' hs hdf]
  generalize slotOf a' = S3 at *
  rw [lit354 S3, h2, h5]
  clear h2 h5 hs hdf
  go_wp2_with (go_at_call 12; refine (addWords32 _ n3 _ t3 u3).mono ?_; rintro e w' ⟨⟨r, rfl, r0, r1⟩, rfl⟩)
  clear a'
  rename_i K hKK
  suffices hx : ∀ a', AD w.heap.size a' → K a' (w.alloc (.cells #[.string f, .pointer o, .slice a1 n1 c1, .slice a2 n2 c2, .slice a3 n3 c3, .slice a4 n4 c4, .slice a5 n5 c5, .slice a6 n6 c6, .slice a7 n7 c7, .slice a8 n8 c8, .slice a9 n9 c9] 33)) by
    refine dloop3 w.heap.size _ a3 n3 c3 D3.out H3.out (by omega) _ ?_ _ ?_ ?_
    · intro a' h; exact hx a' h
    · exact ⟨rfl, rfl, rfl, _, by omega, by omega, rfl⟩
    · rfl
  intro a' hA
  refine hKK a' _ ?_
  clear hKK
  obtain ⟨hs, hdf, h2, T4, t4, u4, h5⟩ := hA
  rw [act_lit 354 a' hs hdf]
  generalize slotOf a' = S4 at *
  rw [lit354 S4, h2, h5]
  clear h2 h5 hs hdf
  go_wp2_with (go_at_call 12; refine (addWords32 _ n4 _ t4 u4).mono ?_; rintro e w' ⟨⟨r, rfl, r0, r1⟩, rfl⟩)
  clear a'
  rename_i K hKK
  suffices hx : ∀ a', AD w.heap.size a' → K a' (w.alloc (.cells #[.string f, .pointer o, .slice a1 n1 c1, .slice a2 n2 c2, .slice a3 n3 c3, .slice a4 n4 c4, .slice a5 n5 c5, .slice a6 n6 c6, .slice a7 n7 c7, .slice a8 n8 c8, .slice a9 n9 c9] 33)) by
    refine dloop4 w.heap.size _ a4 n4 c4 D4.out H4.out (by omega) _ ?_ _ ?_ ?_
    · intro a' h; exact hx a' h
    · exact ⟨rfl, rfl, rfl, _, by omega, by omega, rfl⟩
    · rfl
  intro a' hA
  refine hKK a' _ ?_
  clear hKK
  obtain ⟨hs, hdf, h2, T5, t5, u5, h5⟩ := hA
  rw [act_lit 354 a' hs hdf]
  generalize slotOf a' = S5 at *
  rw [lit354 S5, h2, h5]
  clear h2 h5 hs hdf
  go_wp2_with (go_at_call 12; refine (addWords32 _ n5 _ t5 u5).mono ?_; rintro e w' ⟨⟨r, rfl, r0, r1⟩, rfl⟩)
  clear a'
  rename_i K hKK
  suffices hx : ∀ a', AD w.heap.size a' → K a' (w.alloc (.cells #[.string f, .pointer o, .slice a1 n1 c1, .slice a2 n2 c2, .slice a3 n3 c3, .slice a4 n4 c4, .slice a5 n5 c5, .slice a6 n6 c6, .slice a7 n7 c7, .slice a8 n8 c8, .slice a9 n9 c9] 33)) by
    refine dloop5 w.heap.size _ a5 n5 c5 D5.out H5.out (by omega) _ ?_ _ ?_ ?_
    · intro a' h; exact hx a' h
    · exact ⟨rfl, rfl, rfl, _, by omega, by omega, rfl⟩
    · rfl
  intro a' hA
  refine hKK a' _ ?_
  clear hKK
  obtain ⟨hs, hdf, h2, T6, t6, u6, h5⟩ := hA
  rw [act_lit 354 a' hs hdf]
  generalize slotOf a' = S6 at *
  rw [lit354 S6, h2, h5]
  clear h2 h5 hs hdf
  go_wp2_with (go_at_call 12; refine (addWords32 _ n6 _ t6 u6).mono ?_; rintro e w' ⟨⟨r, rfl, r0, r1⟩, rfl⟩)
  clear a'
  rename_i K hKK
  suffices hx : ∀ a', AD w.heap.size a' → K a' (w.alloc (.cells #[.string f, .pointer o, .slice a1 n1 c1, .slice a2 n2 c2, .slice a3 n3 c3, .slice a4 n4 c4, .slice a5 n5 c5, .slice a6 n6 c6, .slice a7 n7 c7, .slice a8 n8 c8, .slice a9 n9 c9] 33)) by
    refine dloop6 w.heap.size _ a6 n6 c6 D6.out H6.out (by omega) _ ?_ _ ?_ ?_
    · intro a' h; exact hx a' h
    · exact ⟨rfl, rfl, rfl, _, by omega, by omega, rfl⟩
    · rfl
  intro a' hA
  refine hKK a' _ ?_
  clear hKK
  obtain ⟨hs, hdf, h2, T7, t7, u7, h5⟩ := hA
  rw [act_lit 354 a' hs hdf]
  generalize slotOf a' = S7 at *
  rw [lit354 S7, h2, h5]
  clear h2 h5 hs hdf
  go_wp2_with (go_at_call 12; refine (addWords48 _ n7 _ t7 u7).mono ?_; rintro e w' ⟨⟨r, rfl, r0, r1⟩, rfl⟩)
  clear a'
  rename_i K hKK
  suffices hx : ∀ a', AD w.heap.size a' → K a' (w.alloc (.cells #[.string f, .pointer o, .slice a1 n1 c1, .slice a2 n2 c2, .slice a3 n3 c3, .slice a4 n4 c4, .slice a5 n5 c5, .slice a6 n6 c6, .slice a7 n7 c7, .slice a8 n8 c8, .slice a9 n9 c9] 33)) by
    refine dloop7 w.heap.size _ a7 n7 c7 D7.out H7.out (by omega) _ ?_ _ ?_ ?_
    · intro a' h; exact hx a' h
    · exact ⟨rfl, rfl, rfl, _, by omega, by omega, rfl⟩
    · rfl
  intro a' hA
  refine hKK a' _ ?_
  clear hKK
  obtain ⟨hs, hdf, h2, T8, t8, u8, h5⟩ := hA
  rw [act_lit 354 a' hs hdf]
  generalize slotOf a' = S8 at *
  rw [lit354 S8, h2, h5]
  clear h2 h5 hs hdf
  go_wp2_with (go_at_call 12; refine (addWords48 _ n8 _ t8 u8).mono ?_; rintro e w' ⟨⟨r, rfl, r0, r1⟩, rfl⟩)
  clear a'
  rename_i K hKK
  suffices hx : ∀ a', AD w.heap.size a' → K a' (w.alloc (.cells #[.string f, .pointer o, .slice a1 n1 c1, .slice a2 n2 c2, .slice a3 n3 c3, .slice a4 n4 c4, .slice a5 n5 c5, .slice a6 n6 c6, .slice a7 n7 c7, .slice a8 n8 c8, .slice a9 n9 c9] 33)) by
    refine dloop8 w.heap.size _ a8 n8 c8 D8.out H8.out (by omega) _ ?_ _ ?_ ?_
    · intro a' h; exact hx a' h
    · exact ⟨rfl, rfl, rfl, _, by omega, by omega, rfl⟩
    · rfl
  intro a' hA
  refine hKK a' _ ?_
  clear hKK
  obtain ⟨hs, hdf, h2, T9, t9, u9, h5⟩ := hA
  rw [act_lit 354 a' hs hdf]
  generalize slotOf a' = S9 at *
  rw [lit354 S9, h2, h5]
  clear h2 h5 hs hdf
  go_wp2_with (go_at_call 12; refine (addWords48 _ n9 _ t9 u9).mono ?_; rintro e w' ⟨⟨r, rfl, r0, r1⟩, rfl⟩)
  clear a'
  rename_i K hKK
  suffices hx : ∀ a', AD w.heap.size a' → K a' (w.alloc (.cells #[.string f, .pointer o, .slice a1 n1 c1, .slice a2 n2 c2, .slice a3 n3 c3, .slice a4 n4 c4, .slice a5 n5 c5, .slice a6 n6 c6, .slice a7 n7 c7, .slice a8 n8 c8, .slice a9 n9 c9] 33)) by
    refine dloop9 w.heap.size _ a9 n9 c9 D9.out H9.out (by omega) _ ?_ _ ?_ ?_
    · intro a' h; exact hx a' h
    · exact ⟨rfl, rfl, rfl, _, by omega, by omega, rfl⟩
    · rfl
  intro a' hA
  refine hKK a' _ ?_
  clear hKK
  obtain ⟨hs, hdf, h2, T, t, u, h5⟩ := hA
  rw [act_lit 354 a' hs hdf]
  generalize slotOf a' = S at *
  rw [lit354 S, h2, h5]
  go_wp2
  go_ret
  exact ⟨IntPost.mk rfl t u, hB.out⟩
end Go.Proofs.Qxb6613414a
