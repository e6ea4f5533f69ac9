import Derived.Test.Qxb6613414aC3
import Derived.Test.Qxb6613414aA1
namespace Go.Proofs.Qxb6613414a
open Go.RowKit Go.Maps

theorem listName0 (w : World) : Calls Try.prog 10 #[.int .i64 0] w fun e w' => e = .returned (.string ⟨(nmB 0).toArray⟩) ∧ w' = w := by
  go_enter Try.func10, Try.ntmps10
  go_wp2
  go_ret
  exact ⟨rfl, rfl⟩

theorem listName1 (w : World) : Calls Try.prog 10 #[.int .i64 1] w fun e w' => e = .returned (.string ⟨(nmB 1).toArray⟩) ∧ w' = w := by
  go_enter Try.func10, Try.ntmps10
  go_wp2
  go_ret
  exact ⟨rfl, rfl⟩

theorem listName2 (w : World) : Calls Try.prog 10 #[.int .i64 2] w fun e w' => e = .returned (.string ⟨(nmB 2).toArray⟩) ∧ w' = w := by
  go_enter Try.func10, Try.ntmps10
  go_wp2
  go_ret
  exact ⟨rfl, rfl⟩

theorem listName3 (w : World) : Calls Try.prog 10 #[.int .i64 3] w fun e w' => e = .returned (.string ⟨(nmB 3).toArray⟩) ∧ w' = w := by
  go_enter Try.func10, Try.ntmps10
  go_wp2
  go_ret
  exact ⟨rfl, rfl⟩

theorem listName4 (w : World) : Calls Try.prog 10 #[.int .i64 4] w fun e w' => e = .returned (.string ⟨(nmB 4).toArray⟩) ∧ w' = w := by
  go_enter Try.func10, Try.ntmps10
  go_wp2
  go_ret
  exact ⟨rfl, rfl⟩

theorem listName5 (w : World) : Calls Try.prog 10 #[.int .i64 5] w fun e w' => e = .returned (.string ⟨(nmB 5).toArray⟩) ∧ w' = w := by
  go_enter Try.func10, Try.ntmps10
  go_wp2
  go_ret
  exact ⟨rfl, rfl⟩

theorem listName6 (w : World) : Calls Try.prog 10 #[.int .i64 6] w fun e w' => e = .returned (.string ⟨(nmB 6).toArray⟩) ∧ w' = w := by
  go_enter Try.func10, Try.ntmps10
  go_wp2
  go_ret
  exact ⟨rfl, rfl⟩

theorem listName7 (w : World) : Calls Try.prog 10 #[.int .i64 7] w fun e w' => e = .returned (.string ⟨(nmB 7).toArray⟩) ∧ w' = w := by
  go_enter Try.func10, Try.ntmps10
  go_wp2
  go_ret
  exact ⟨rfl, rfl⟩

theorem listName8 (w : World) : Calls Try.prog 10 #[.int .i64 8] w fun e w' => e = .returned (.string ⟨(nmB 8).toArray⟩) ∧ w' = w := by
  go_enter Try.func10, Try.ntmps10
  go_wp2
  go_ret
  exact ⟨rfl, rfl⟩

theorem listName_any (k : Nat) (hk : k < 9) (w : World) : Calls Try.prog 10 #[.int .i64 (k : Int)] w fun e w' => e = .returned (.string ⟨(nmB k).toArray⟩) ∧ w' = w := by
  match k, hk with
  | 0, _ => exact listName0 w
  | 1, _ => exact listName1 w
  | 2, _ => exact listName2 w
  | 3, _ => exact listName3 w
  | 4, _ => exact listName4 w
  | 5, _ => exact listName5 w
  | 6, _ => exact listName6 w
  | 7, _ => exact listName7 w
  | 8, _ => exact listName8 w
  | k + 9, hk => omega

set_option maxHeartbeats 1600000 in
set_option maxRecDepth 100000 in
theorem listState0 (f : ByteArray) (o : Option Addr) (a1 a2 a3 a4 a5 a6 a7 a8 a9 : Option Addr) (n1 n2 n3 n4 n5 n6 n7 n8 n9 c1 c2 c3 c4 c5 c6 c7 c8 c9 : Nat) (w : World) :
    Calls Try.prog 9 #[.agg #[.string f, .pointer o, .slice a1 n1 c1, .slice a2 n2 c2, .slice a3 n3 c3, .slice a4 n4 c4, .slice a5 n5 c5, .slice a6 n6 c6, .slice a7 n7 c7, .slice a8 n8 c8, .slice a9 n9 c9], .int .i64 0] w fun e w' => e = .returned (.tuple #[.bool a1.isSome, .int .i64 n1]) ∧ Below w.heap.size w w' := by
  have hq := fun (w : World) => run_neq_slice_nil_any (P := Try.prog) w 23 61 a1 n1 c1 0 0 Try.underlying23
  go_enter Try.func9, Try.ntmps9
  go_wp2
  go_quiet (fail)
  go_wp2
  go_ret2
  exact ⟨rfl, below_drewN ((Below.refl _ _).alloc (Nat.le_refl _) _) _⟩

set_option maxHeartbeats 1600000 in
set_option maxRecDepth 100000 in
theorem listState1 (f : ByteArray) (o : Option Addr) (a1 a2 a3 a4 a5 a6 a7 a8 a9 : Option Addr) (n1 n2 n3 n4 n5 n6 n7 n8 n9 c1 c2 c3 c4 c5 c6 c7 c8 c9 : Nat) (w : World) :
    Calls Try.prog 9 #[.agg #[.string f, .pointer o, .slice a1 n1 c1, .slice a2 n2 c2, .slice a3 n3 c3, .slice a4 n4 c4, .slice a5 n5 c5, .slice a6 n6 c6, .slice a7 n7 c7, .slice a8 n8 c8, .slice a9 n9 c9], .int .i64 1] w fun e w' => e = .returned (.tuple #[.bool a2.isSome, .int .i64 n2]) ∧ Below w.heap.size w w' := by
  have hq := fun (w : World) => run_neq_slice_nil_any (P := Try.prog) w 24 64 a2 n2 c2 0 0 Try.underlying24
  go_enter Try.func9, Try.ntmps9
  go_wp2
  go_quiet (fail)
  go_wp2
  go_ret2
  exact ⟨rfl, below_drewN ((Below.refl _ _).alloc (Nat.le_refl _) _) _⟩

set_option maxHeartbeats 1600000 in
set_option maxRecDepth 100000 in
theorem listState2 (f : ByteArray) (o : Option Addr) (a1 a2 a3 a4 a5 a6 a7 a8 a9 : Option Addr) (n1 n2 n3 n4 n5 n6 n7 n8 n9 c1 c2 c3 c4 c5 c6 c7 c8 c9 : Nat) (w : World) :
    Calls Try.prog 9 #[.agg #[.string f, .pointer o, .slice a1 n1 c1, .slice a2 n2 c2, .slice a3 n3 c3, .slice a4 n4 c4, .slice a5 n5 c5, .slice a6 n6 c6, .slice a7 n7 c7, .slice a8 n8 c8, .slice a9 n9 c9], .int .i64 2] w fun e w' => e = .returned (.tuple #[.bool a3.isSome, .int .i64 n3]) ∧ Below w.heap.size w w' := by
  have hq := fun (w : World) => run_neq_slice_nil_any (P := Try.prog) w 25 58 a3 n3 c3 0 0 Try.underlying25
  go_enter Try.func9, Try.ntmps9
  go_wp2
  go_quiet (fail)
  go_wp2
  go_ret2
  exact ⟨rfl, below_drewN ((Below.refl _ _).alloc (Nat.le_refl _) _) _⟩

set_option maxHeartbeats 1600000 in
set_option maxRecDepth 100000 in
theorem listState3 (f : ByteArray) (o : Option Addr) (a1 a2 a3 a4 a5 a6 a7 a8 a9 : Option Addr) (n1 n2 n3 n4 n5 n6 n7 n8 n9 c1 c2 c3 c4 c5 c6 c7 c8 c9 : Nat) (w : World) :
    Calls Try.prog 9 #[.agg #[.string f, .pointer o, .slice a1 n1 c1, .slice a2 n2 c2, .slice a3 n3 c3, .slice a4 n4 c4, .slice a5 n5 c5, .slice a6 n6 c6, .slice a7 n7 c7, .slice a8 n8 c8, .slice a9 n9 c9], .int .i64 3] w fun e w' => e = .returned (.tuple #[.bool a4.isSome, .int .i64 n4]) ∧ Below w.heap.size w w' := by
  have hq := fun (w : World) => run_neq_slice_nil_any (P := Try.prog) w 26 66 a4 n4 c4 0 0 Try.underlying26
  go_enter Try.func9, Try.ntmps9
  go_wp2
  go_quiet (fail)
  go_wp2
  go_ret2
  exact ⟨rfl, below_drewN ((Below.refl _ _).alloc (Nat.le_refl _) _) _⟩

set_option maxHeartbeats 1600000 in
set_option maxRecDepth 100000 in
theorem listState4 (f : ByteArray) (o : Option Addr) (a1 a2 a3 a4 a5 a6 a7 a8 a9 : Option Addr) (n1 n2 n3 n4 n5 n6 n7 n8 n9 c1 c2 c3 c4 c5 c6 c7 c8 c9 : Nat) (w : World) :
    Calls Try.prog 9 #[.agg #[.string f, .pointer o, .slice a1 n1 c1, .slice a2 n2 c2, .slice a3 n3 c3, .slice a4 n4 c4, .slice a5 n5 c5, .slice a6 n6 c6, .slice a7 n7 c7, .slice a8 n8 c8, .slice a9 n9 c9], .int .i64 4] w fun e w' => e = .returned (.tuple #[.bool a5.isSome, .int .i64 n5]) ∧ Below w.heap.size w w' := by
  have hq := fun (w : World) => run_neq_slice_nil_any (P := Try.prog) w 27 68 a5 n5 c5 0 0 Try.underlying27
  go_enter Try.func9, Try.ntmps9
  go_wp2
  go_quiet (fail)
  go_wp2
  go_ret2
  exact ⟨rfl, below_drewN ((Below.refl _ _).alloc (Nat.le_refl _) _) _⟩

set_option maxHeartbeats 1600000 in
set_option maxRecDepth 100000 in
theorem listState5 (f : ByteArray) (o : Option Addr) (a1 a2 a3 a4 a5 a6 a7 a8 a9 : Option Addr) (n1 n2 n3 n4 n5 n6 n7 n8 n9 c1 c2 c3 c4 c5 c6 c7 c8 c9 : Nat) (w : World) :
    Calls Try.prog 9 #[.agg #[.string f, .pointer o, .slice a1 n1 c1, .slice a2 n2 c2, .slice a3 n3 c3, .slice a4 n4 c4, .slice a5 n5 c5, .slice a6 n6 c6, .slice a7 n7 c7, .slice a8 n8 c8, .slice a9 n9 c9], .int .i64 5] w fun e w' => e = .returned (.tuple #[.bool a6.isSome, .int .i64 n6]) ∧ Below w.heap.size w w' := by
  have hq := fun (w : World) => run_neq_slice_nil_any (P := Try.prog) w 28 70 a6 n6 c6 0 0 Try.underlying28
  go_enter Try.func9, Try.ntmps9
  go_wp2
  go_quiet (fail)
  go_wp2
  go_ret2
  exact ⟨rfl, below_drewN ((Below.refl _ _).alloc (Nat.le_refl _) _) _⟩

set_option maxHeartbeats 1600000 in
set_option maxRecDepth 100000 in
theorem listState6 (f : ByteArray) (o : Option Addr) (a1 a2 a3 a4 a5 a6 a7 a8 a9 : Option Addr) (n1 n2 n3 n4 n5 n6 n7 n8 n9 c1 c2 c3 c4 c5 c6 c7 c8 c9 : Nat) (w : World) :
    Calls Try.prog 9 #[.agg #[.string f, .pointer o, .slice a1 n1 c1, .slice a2 n2 c2, .slice a3 n3 c3, .slice a4 n4 c4, .slice a5 n5 c5, .slice a6 n6 c6, .slice a7 n7 c7, .slice a8 n8 c8, .slice a9 n9 c9], .int .i64 6] w fun e w' => e = .returned (.tuple #[.bool a7.isSome, .int .i64 n7]) ∧ Below w.heap.size w w' := by
  have hq := fun (w : World) => run_neq_slice_nil_any (P := Try.prog) w 29 72 a7 n7 c7 0 0 Try.underlying29
  go_enter Try.func9, Try.ntmps9
  go_wp2
  go_quiet (fail)
  go_wp2
  go_ret2
  exact ⟨rfl, below_drewN ((Below.refl _ _).alloc (Nat.le_refl _) _) _⟩

set_option maxHeartbeats 1600000 in
set_option maxRecDepth 100000 in
theorem listState7 (f : ByteArray) (o : Option Addr) (a1 a2 a3 a4 a5 a6 a7 a8 a9 : Option Addr) (n1 n2 n3 n4 n5 n6 n7 n8 n9 c1 c2 c3 c4 c5 c6 c7 c8 c9 : Nat) (w : World) :
    Calls Try.prog 9 #[.agg #[.string f, .pointer o, .slice a1 n1 c1, .slice a2 n2 c2, .slice a3 n3 c3, .slice a4 n4 c4, .slice a5 n5 c5, .slice a6 n6 c6, .slice a7 n7 c7, .slice a8 n8 c8, .slice a9 n9 c9], .int .i64 7] w fun e w' => e = .returned (.tuple #[.bool a8.isSome, .int .i64 n8]) ∧ Below w.heap.size w w' := by
  have hq := fun (w : World) => run_neq_slice_nil_any (P := Try.prog) w 30 74 a8 n8 c8 0 0 Try.underlying30
  go_enter Try.func9, Try.ntmps9
  go_wp2
  go_quiet (fail)
  go_wp2
  go_ret2
  exact ⟨rfl, below_drewN ((Below.refl _ _).alloc (Nat.le_refl _) _) _⟩

set_option maxHeartbeats 1600000 in
set_option maxRecDepth 100000 in
theorem listState8 (f : ByteArray) (o : Option Addr) (a1 a2 a3 a4 a5 a6 a7 a8 a9 : Option Addr) (n1 n2 n3 n4 n5 n6 n7 n8 n9 c1 c2 c3 c4 c5 c6 c7 c8 c9 : Nat) (w : World) :
    Calls Try.prog 9 #[.agg #[.string f, .pointer o, .slice a1 n1 c1, .slice a2 n2 c2, .slice a3 n3 c3, .slice a4 n4 c4, .slice a5 n5 c5, .slice a6 n6 c6, .slice a7 n7 c7, .slice a8 n8 c8, .slice a9 n9 c9], .int .i64 8] w fun e w' => e = .returned (.tuple #[.bool a9.isSome, .int .i64 n9]) ∧ Below w.heap.size w w' := by
  have hq := fun (w : World) => run_neq_slice_nil_any (P := Try.prog) w 31 76 a9 n9 c9 0 0 Try.underlying31
  go_enter Try.func9, Try.ntmps9
  go_wp2
  go_quiet (fail)
  go_wp2
  go_ret2
  exact ⟨rfl, below_drewN ((Below.refl _ _).alloc (Nat.le_refl _) _) _⟩

theorem listState_any (f : ByteArray) (o : Option Addr) (a1 a2 a3 a4 a5 a6 a7 a8 a9 : Option Addr) (n1 n2 n3 n4 n5 n6 n7 n8 n9 c1 c2 c3 c4 c5 c6 c7 c8 c9 : Nat) (k : Nat) (hk : k < 9) (w : World) :
    Calls Try.prog 9 #[.agg #[.string f, .pointer o, .slice a1 n1 c1, .slice a2 n2 c2, .slice a3 n3 c3, .slice a4 n4 c4, .slice a5 n5 c5, .slice a6 n6 c6, .slice a7 n7 c7, .slice a8 n8 c8, .slice a9 n9 c9], .int .i64 (k : Int)] w fun e w' => e = .returned (.tuple #[.bool ((fun j => [a1, a2, a3, a4, a5, a6, a7, a8, a9].getD j none) k).isSome, .int .i64 ((fun j => [n1, n2, n3, n4, n5, n6, n7, n8, n9].getD j 0) k : Nat)]) ∧ Below w.heap.size w w' := by
  match k, hk with
  | 0, _ => exact listState0 f o a1 a2 a3 a4 a5 a6 a7 a8 a9 n1 n2 n3 n4 n5 n6 n7 n8 n9 c1 c2 c3 c4 c5 c6 c7 c8 c9 w
  | 1, _ => exact listState1 f o a1 a2 a3 a4 a5 a6 a7 a8 a9 n1 n2 n3 n4 n5 n6 n7 n8 n9 c1 c2 c3 c4 c5 c6 c7 c8 c9 w
  | 2, _ => exact listState2 f o a1 a2 a3 a4 a5 a6 a7 a8 a9 n1 n2 n3 n4 n5 n6 n7 n8 n9 c1 c2 c3 c4 c5 c6 c7 c8 c9 w
  | 3, _ => exact listState3 f o a1 a2 a3 a4 a5 a6 a7 a8 a9 n1 n2 n3 n4 n5 n6 n7 n8 n9 c1 c2 c3 c4 c5 c6 c7 c8 c9 w
  | 4, _ => exact listState4 f o a1 a2 a3 a4 a5 a6 a7 a8 a9 n1 n2 n3 n4 n5 n6 n7 n8 n9 c1 c2 c3 c4 c5 c6 c7 c8 c9 w
  | 5, _ => exact listState5 f o a1 a2 a3 a4 a5 a6 a7 a8 a9 n1 n2 n3 n4 n5 n6 n7 n8 n9 c1 c2 c3 c4 c5 c6 c7 c8 c9 w
  | 6, _ => exact listState6 f o a1 a2 a3 a4 a5 a6 a7 a8 a9 n1 n2 n3 n4 n5 n6 n7 n8 n9 c1 c2 c3 c4 c5 c6 c7 c8 c9 w
  | 7, _ => exact listState7 f o a1 a2 a3 a4 a5 a6 a7 a8 a9 n1 n2 n3 n4 n5 n6 n7 n8 n9 c1 c2 c3 c4 c5 c6 c7 c8 c9 w
  | 8, _ => exact listState8 f o a1 a2 a3 a4 a5 a6 a7 a8 a9 n1 n2 n3 n4 n5 n6 n7 n8 n9 c1 c2 c3 c4 c5 c6 c7 c8 c9 w
  | k + 9, hk => omega

theorem add_any (k : Nat) (hk : k < 9) (d : Nat) (a : Option Addr) (n c : Nat) (xs : List Value) (w : World) (hown : w.ownsRow 0 (elemOf k) (cellsOf k) (.slice a n c) n xs) (hc : w.cell? ⟨d, k + 2, none⟩ = some (.slice a n c)) (hf : w.frozen? ⟨d, k + 2, none⟩ = false)
    (hd : some d ≠ (Value.slice a n c).ownBlock) (hn : n ≤ 1048576) :
    Calls Try.prog 8 #[.pointer (some ⟨d, 0, none⟩), .int .i64 (k : Int)] w (APost d k n (Value.slice a n c).ownBlock w) := by
  match k, hk with
  | 0, _ => exact add1 d a n c xs w hown hc hf hd hn
  | 1, _ => exact add2 d a n c xs w hown hc hf hd hn
  | 2, _ => exact add3 d a n c xs w hown hc hf hd hn
  | 3, _ => exact add4 d a n c xs w hown hc hf hd hn
  | 4, _ => exact add5 d a n c xs w hown hc hf hd hn
  | 5, _ => exact add6 d a n c xs w hown hc hf hd hn
  | 6, _ => exact add7 d a n c xs w hown hc hf hd hn
  | 7, _ => exact add8 d a n c xs w hown hc hf hd hn
  | 8, _ => exact add9 d a n c xs w hown hc hf hd hn
  | k + 9, hk => omega

theorem MapIs.congr {D : DataW Unit} {B B' : Nat → Bool} {V V' : Nat → Nat} (h : MapIs D B V 9) (hB : ∀ j, j < 9 → B j = B' j) (hV : ∀ j, j < 9 → V j = V' j) : MapIs D B' V' 9 := by
  obtain ⟨h1, h2, h3⟩ := h
  refine ⟨h1, fun j hj => ?_, ?_⟩
  · rw [← hB j hj, ← hV j hj]; exact h2 j hj
  · rw [h3]
    simp only [cnt]
    simp [hB]

theorem counts_fn (d : Nat) (A : Nat → Option Addr) (N C : Nat → Nat) (w : World) (h : ∀ j, j < 9 → w.cell? ⟨d, j + 2, none⟩ = some (.slice (A j) (N j) (C j))) (hn : ∀ j, j < 9 → N j ≤ 1048577) :
    Calls Try.prog 7 #[.pointer (some ⟨d, 0, none⟩)] w (CPost w (fun j => (A j).isSome) N) := by
  refine (counts_any d (A 0) (A 1) (A 2) (A 3) (A 4) (A 5) (A 6) (A 7) (A 8) (N 0) (N 1) (N 2) (N 3) (N 4) (N 5) (N 6) (N 7) (N 8) (C 0) (C 1) (C 2) (C 3) (C 4) (C 5) (C 6) (C 7) (C 8) w (h 0 (by omega)) (h 1 (by omega)) (h 2 (by omega)) (h 3 (by omega)) (h 4 (by omega)) (h 5 (by omega)) (h 6 (by omega)) (h 7 (by omega)) (h 8 (by omega)) (hn 0 (by omega)) (hn 1 (by omega)) (hn 2 (by omega)) (hn 3 (by omega)) (hn 4 (by omega)) (hn 5 (by omega)) (hn 6 (by omega)) (hn 7 (by omega)) (hn 8 (by omega))).mono ?_
  rintro e w' ⟨mb, D, he, hmb, ho, hM, hb⟩
  refine ⟨mb, D, he, hmb, ho, hM.congr (fun j hj => ?_) (fun j hj => ?_), hb⟩
  · match j, hj with
    | 0, _ => rfl
    | 1, _ => rfl
    | 2, _ => rfl
    | 3, _ => rfl
    | 4, _ => rfl
    | 5, _ => rfl
    | 6, _ => rfl
    | 7, _ => rfl
    | 8, _ => rfl
    | k + 9, hk => omega
  · match j, hj with
    | 0, _ => rfl
    | 1, _ => rfl
    | 2, _ => rfl
    | 3, _ => rfl
    | 4, _ => rfl
    | 5, _ => rfl
    | 6, _ => rfl
    | 7, _ => rfl
    | 8, _ => rfl
    | k + 9, hk => omega

/-- A slice value's address and capacity. -/
def addrOf : Value → Option Addr
  | .slice a _ _ => a
  | _ => none
def capOf : Value → Nat
  | .slice _ _ c => c
  | _ => 0

theorem LOk.form {B : Nat} {w' : World} {a : Option Addr} {n E sz : Nat} {v : Value} (h : LOk B w' a n E sz v) (ha : a = none → n = 0) (hn : n ≤ 1048576) :
    v = .slice (addrOf v) n (capOf v) ∧ (addrOf v).isSome = a.isSome ∧ (∃ xs, w'.ownsRow 0 E sz (.slice (addrOf v) n (capOf v)) n xs) ∧ ∀ r, (Value.slice (addrOf v) n (capOf v)).ownBlock = some r → B ≤ r ∧ r < w'.heap.size := by
  rcases h with ⟨rfl, rfl⟩ | ⟨hne, r, rfl, hr, hb⟩
  · obtain rfl := ha rfl
    exact ⟨rfl, rfl, ⟨[], World.ownsRow_nil _ _ _ _⟩, fun r hr => by simp [addrOf, Value.ownBlock] at hr⟩
  · refine ⟨rfl, ?_, ?_, fun r' hr' => ?_⟩
    · cases a with
      | none => exact absurd rfl hne
      | some _ => rfl
    · obtain ⟨cur, h1, h2⟩ := hb
      exact ⟨cur.toList.take (n * sz), by simp [h2], .inr ⟨r, n, cur, rfl, Nat.zero_le _, h1, Nat.le_refl _, by unfold maxLen; omega, h2, rfl⟩⟩
    · simp only [addrOf, Value.ownBlock, Option.some.injEq] at hr'
      subst hr'
      exact ⟨hr, hb.lt⟩
end Go.Proofs.Qxb6613414a
