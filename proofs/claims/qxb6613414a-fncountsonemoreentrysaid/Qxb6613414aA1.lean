import Derived.Test.Qxb6613414aT4
import Derived.RangeFuncBox
namespace Go.Proofs.Qxb6613414a
open Go.RowKit

/-- What addEntry leaves: list k of the document at block d is one longer. -/
def APost (d k n : Nat) (own : Option Nat) (w : World) (e : Ending) (w' : World) : Prop :=
  e = .returned (.tuple #[]) ∧ ∃ w1 g c, w.grownBy w1 own ∧ w' = w1.setCell ⟨d, k + 2, none⟩ (.slice (some ⟨g, 0, none⟩) (n + 1) c)

theorem news_at (w : World) (cs : List Value) (E : Nat) : ∀ j u, cs[j]? = some u → (w.alloc (.cells cs.toArray E)).cell? (Addr.add ⟨w.heap.size, 0, none⟩ j) = some u := by
  intro j u hj
  have ea : (⟨w.heap.size, 0, none⟩ : Addr).add j = ⟨w.heap.size, j, none⟩ := by unfold Addr.add; split <;> simp_all
  rw [ea]
  exact (cell_of_row _ _ j cs.toArray E (0, 0) (heap_alloc_new w _)).trans (by simpa using hj)

set_option maxHeartbeats 4000000 in
set_option maxRecDepth 100000 in
theorem add1 (d : Nat) (a : Option Addr) (n c : Nat) (xs : List Value) (w : World) (hown : w.ownsRow 0 84 2 (.slice a n c) n xs) (hc : w.cell? ⟨d, 2, none⟩ = some (.slice a n c)) (hf : w.frozen? ⟨d, 2, none⟩ = false)
    (hd : some d ≠ (Value.slice a n c).ownBlock) (hn : n ≤ 1048576) :
    Calls Try.prog 8 #[.pointer (some ⟨d, 0, none⟩), .int .i64 0] w (APost d 0 n (Value.slice a n c).ownBlock w) := by
  obtain ⟨i0, hi, hz0, hz1, hz2⟩ := info_parts info84
  have HI := hid (And.intro hi (And.intro hz0 (And.intro hz1 hz2)))
  have HW := hid hown
  have HD := hid hd
  have HF := hid hf
  have lb := World.block_lt_of_cell? w _ hc
  simp only at lb
  clear hi hz0 hz1 hz2 hown hd hf
  go_enter Try.func8, Try.ntmps8
  go_wp2_with (at_builtin; refine wpList_append_own _ rfl _ _ 37 rfl 0 84 i0 (.agg #[.string ⟨#[]⟩, .pointer none]) 2 24 Try.underlying37 HI.out.1 HI.out.2.1 HI.out.2.2.1 HI.out.2.2.2 rfl (by decide) _ _ _ rfl (HW.out.alloc _) ⟨w.heap.size, 0, none⟩ 1 1 [.string ⟨#[]⟩, .pointer none] rfl rfl (news_at w _ 84) (by simp [Value.oneCell']) (by unfold maxLen; omega) (by omega) (Nat.zero_le _) ?_)
  intro v' w1 hown' hgrow _
  obtain ⟨g', cap', hv⟩ := ownsRow_succ hown'
  rw [hv]
  have hall := hid ((World.grownBy_alloc w (.cells #[.string ⟨#[]⟩, .pointer none] 84) (Value.slice a n c).ownBlock).trans hgrow)
  have hc1 := hall.out.cell hc HD.out
  have hf1 : w1.frozen? ⟨d, 2, none⟩ = false := (World.frozen?_of_block (w := w) (hall.out.block d lb HD.out)).trans HF.out
  clear hown' hgrow hv hc
  go_wp2
  go_end0
  exact ⟨rfl, w1, g', cap', hall.out, rfl⟩

set_option maxHeartbeats 4000000 in
set_option maxRecDepth 100000 in
theorem add2 (d : Nat) (a : Option Addr) (n c : Nat) (xs : List Value) (w : World) (hown : w.ownsRow 0 87 4 (.slice a n c) n xs) (hc : w.cell? ⟨d, 3, none⟩ = some (.slice a n c)) (hf : w.frozen? ⟨d, 3, none⟩ = false)
    (hd : some d ≠ (Value.slice a n c).ownBlock) (hn : n ≤ 1048576) :
    Calls Try.prog 8 #[.pointer (some ⟨d, 0, none⟩), .int .i64 1] w (APost d 1 n (Value.slice a n c).ownBlock w) := by
  obtain ⟨i0, hi, hz0, hz1, hz2⟩ := info_parts info87
  have HI := hid (And.intro hi (And.intro hz0 (And.intro hz1 hz2)))
  have HW := hid hown
  have HD := hid hd
  have HF := hid hf
  have lb := World.block_lt_of_cell? w _ hc
  simp only at lb
  clear hi hz0 hz1 hz2 hown hd hf
  go_enter Try.func8, Try.ntmps8
  go_wp2_with (at_builtin; refine wpList_append_own _ rfl _ _ 38 rfl 0 87 i0 (.agg #[.string ⟨#[]⟩, .string ⟨#[]⟩, .pointer none, .pointer none]) 4 48 Try.underlying38 HI.out.1 HI.out.2.1 HI.out.2.2.1 HI.out.2.2.2 rfl (by decide) _ _ _ rfl (HW.out.alloc _) ⟨w.heap.size, 0, none⟩ 1 1 [.string ⟨#[]⟩, .string ⟨#[]⟩, .pointer none, .pointer none] rfl rfl (news_at w _ 87) (by simp [Value.oneCell']) (by unfold maxLen; omega) (by omega) (Nat.zero_le _) ?_)
  intro v' w1 hown' hgrow _
  obtain ⟨g', cap', hv⟩ := ownsRow_succ hown'
  rw [hv]
  have hall := hid ((World.grownBy_alloc w (.cells #[.string ⟨#[]⟩, .string ⟨#[]⟩, .pointer none, .pointer none] 87) (Value.slice a n c).ownBlock).trans hgrow)
  have hc1 := hall.out.cell hc HD.out
  have hf1 : w1.frozen? ⟨d, 3, none⟩ = false := (World.frozen?_of_block (w := w) (hall.out.block d lb HD.out)).trans HF.out
  clear hown' hgrow hv hc
  go_wp2
  go_end0
  exact ⟨rfl, w1, g', cap', hall.out, rfl⟩

set_option maxHeartbeats 4000000 in
set_option maxRecDepth 100000 in
theorem add3 (d : Nat) (a : Option Addr) (n c : Nat) (xs : List Value) (w : World) (hown : w.ownsRow 0 81 2 (.slice a n c) n xs) (hc : w.cell? ⟨d, 4, none⟩ = some (.slice a n c)) (hf : w.frozen? ⟨d, 4, none⟩ = false)
    (hd : some d ≠ (Value.slice a n c).ownBlock) (hn : n ≤ 1048576) :
    Calls Try.prog 8 #[.pointer (some ⟨d, 0, none⟩), .int .i64 2] w (APost d 2 n (Value.slice a n c).ownBlock w) := by
  obtain ⟨i0, hi, hz0, hz1, hz2⟩ := info_parts info81
  have HI := hid (And.intro hi (And.intro hz0 (And.intro hz1 hz2)))
  have HW := hid hown
  have HD := hid hd
  have HF := hid hf
  have lb := World.block_lt_of_cell? w _ hc
  simp only at lb
  clear hi hz0 hz1 hz2 hown hd hf
  go_enter Try.func8, Try.ntmps8
  go_wp2_with (at_builtin; refine wpList_append_own _ rfl _ _ 39 rfl 0 81 i0 (.agg #[.string ⟨#[]⟩, .string ⟨#[]⟩]) 2 32 Try.underlying39 HI.out.1 HI.out.2.1 HI.out.2.2.1 HI.out.2.2.2 rfl (by decide) _ _ _ rfl (HW.out.alloc _) ⟨w.heap.size, 0, none⟩ 1 1 [.string ⟨#[]⟩, .string ⟨#[]⟩] rfl rfl (news_at w _ 81) (by simp [Value.oneCell']) (by unfold maxLen; omega) (by omega) (Nat.zero_le _) ?_)
  intro v' w1 hown' hgrow _
  obtain ⟨g', cap', hv⟩ := ownsRow_succ hown'
  rw [hv]
  have hall := hid ((World.grownBy_alloc w (.cells #[.string ⟨#[]⟩, .string ⟨#[]⟩] 81) (Value.slice a n c).ownBlock).trans hgrow)
  have hc1 := hall.out.cell hc HD.out
  have hf1 : w1.frozen? ⟨d, 4, none⟩ = false := (World.frozen?_of_block (w := w) (hall.out.block d lb HD.out)).trans HF.out
  clear hown' hgrow hv hc
  go_wp2
  go_end0
  exact ⟨rfl, w1, g', cap', hall.out, rfl⟩

set_option maxHeartbeats 4000000 in
set_option maxRecDepth 100000 in
theorem add4 (d : Nat) (a : Option Addr) (n c : Nat) (xs : List Value) (w : World) (hown : w.ownsRow 0 89 2 (.slice a n c) n xs) (hc : w.cell? ⟨d, 5, none⟩ = some (.slice a n c)) (hf : w.frozen? ⟨d, 5, none⟩ = false)
    (hd : some d ≠ (Value.slice a n c).ownBlock) (hn : n ≤ 1048576) :
    Calls Try.prog 8 #[.pointer (some ⟨d, 0, none⟩), .int .i64 3] w (APost d 3 n (Value.slice a n c).ownBlock w) := by
  obtain ⟨i0, hi, hz0, hz1, hz2⟩ := info_parts info89
  have HI := hid (And.intro hi (And.intro hz0 (And.intro hz1 hz2)))
  have HW := hid hown
  have HD := hid hd
  have HF := hid hf
  have lb := World.block_lt_of_cell? w _ hc
  simp only at lb
  clear hi hz0 hz1 hz2 hown hd hf
  go_enter Try.func8, Try.ntmps8
  go_wp2_with (at_builtin; refine wpList_append_own _ rfl _ _ 40 rfl 0 89 i0 (.agg #[.string ⟨#[]⟩, .string ⟨#[]⟩]) 2 32 Try.underlying40 HI.out.1 HI.out.2.1 HI.out.2.2.1 HI.out.2.2.2 rfl (by decide) _ _ _ rfl (HW.out.alloc _) ⟨w.heap.size, 0, none⟩ 1 1 [.string ⟨#[]⟩, .string ⟨#[]⟩] rfl rfl (news_at w _ 89) (by simp [Value.oneCell']) (by unfold maxLen; omega) (by omega) (Nat.zero_le _) ?_)
  intro v' w1 hown' hgrow _
  obtain ⟨g', cap', hv⟩ := ownsRow_succ hown'
  rw [hv]
  have hall := hid ((World.grownBy_alloc w (.cells #[.string ⟨#[]⟩, .string ⟨#[]⟩] 89) (Value.slice a n c).ownBlock).trans hgrow)
  have hc1 := hall.out.cell hc HD.out
  have hf1 : w1.frozen? ⟨d, 5, none⟩ = false := (World.frozen?_of_block (w := w) (hall.out.block d lb HD.out)).trans HF.out
  clear hown' hgrow hv hc
  go_wp2
  go_end0
  exact ⟨rfl, w1, g', cap', hall.out, rfl⟩

set_option maxHeartbeats 4000000 in
set_option maxRecDepth 100000 in
theorem add5 (d : Nat) (a : Option Addr) (n c : Nat) (xs : List Value) (w : World) (hown : w.ownsRow 0 91 2 (.slice a n c) n xs) (hc : w.cell? ⟨d, 6, none⟩ = some (.slice a n c)) (hf : w.frozen? ⟨d, 6, none⟩ = false)
    (hd : some d ≠ (Value.slice a n c).ownBlock) (hn : n ≤ 1048576) :
    Calls Try.prog 8 #[.pointer (some ⟨d, 0, none⟩), .int .i64 4] w (APost d 4 n (Value.slice a n c).ownBlock w) := by
  obtain ⟨i0, hi, hz0, hz1, hz2⟩ := info_parts info91
  have HI := hid (And.intro hi (And.intro hz0 (And.intro hz1 hz2)))
  have HW := hid hown
  have HD := hid hd
  have HF := hid hf
  have lb := World.block_lt_of_cell? w _ hc
  simp only at lb
  clear hi hz0 hz1 hz2 hown hd hf
  go_enter Try.func8, Try.ntmps8
  go_wp2_with (at_builtin; refine wpList_append_own _ rfl _ _ 41 rfl 0 91 i0 (.agg #[.string ⟨#[]⟩, .string ⟨#[]⟩]) 2 32 Try.underlying41 HI.out.1 HI.out.2.1 HI.out.2.2.1 HI.out.2.2.2 rfl (by decide) _ _ _ rfl (HW.out.alloc _) ⟨w.heap.size, 0, none⟩ 1 1 [.string ⟨#[]⟩, .string ⟨#[]⟩] rfl rfl (news_at w _ 91) (by simp [Value.oneCell']) (by unfold maxLen; omega) (by omega) (Nat.zero_le _) ?_)
  intro v' w1 hown' hgrow _
  obtain ⟨g', cap', hv⟩ := ownsRow_succ hown'
  rw [hv]
  have hall := hid ((World.grownBy_alloc w (.cells #[.string ⟨#[]⟩, .string ⟨#[]⟩] 91) (Value.slice a n c).ownBlock).trans hgrow)
  have hc1 := hall.out.cell hc HD.out
  have hf1 : w1.frozen? ⟨d, 6, none⟩ = false := (World.frozen?_of_block (w := w) (hall.out.block d lb HD.out)).trans HF.out
  clear hown' hgrow hv hc
  go_wp2
  go_end0
  exact ⟨rfl, w1, g', cap', hall.out, rfl⟩

set_option maxHeartbeats 4000000 in
set_option maxRecDepth 100000 in
theorem add6 (d : Nat) (a : Option Addr) (n c : Nat) (xs : List Value) (w : World) (hown : w.ownsRow 0 93 2 (.slice a n c) n xs) (hc : w.cell? ⟨d, 7, none⟩ = some (.slice a n c)) (hf : w.frozen? ⟨d, 7, none⟩ = false)
    (hd : some d ≠ (Value.slice a n c).ownBlock) (hn : n ≤ 1048576) :
    Calls Try.prog 8 #[.pointer (some ⟨d, 0, none⟩), .int .i64 5] w (APost d 5 n (Value.slice a n c).ownBlock w) := by
  obtain ⟨i0, hi, hz0, hz1, hz2⟩ := info_parts info93
  have HI := hid (And.intro hi (And.intro hz0 (And.intro hz1 hz2)))
  have HW := hid hown
  have HD := hid hd
  have HF := hid hf
  have lb := World.block_lt_of_cell? w _ hc
  simp only at lb
  clear hi hz0 hz1 hz2 hown hd hf
  go_enter Try.func8, Try.ntmps8
  go_wp2_with (at_builtin; refine wpList_append_own _ rfl _ _ 42 rfl 0 93 i0 (.agg #[.string ⟨#[]⟩, .string ⟨#[]⟩]) 2 32 Try.underlying42 HI.out.1 HI.out.2.1 HI.out.2.2.1 HI.out.2.2.2 rfl (by decide) _ _ _ rfl (HW.out.alloc _) ⟨w.heap.size, 0, none⟩ 1 1 [.string ⟨#[]⟩, .string ⟨#[]⟩] rfl rfl (news_at w _ 93) (by simp [Value.oneCell']) (by unfold maxLen; omega) (by omega) (Nat.zero_le _) ?_)
  intro v' w1 hown' hgrow _
  obtain ⟨g', cap', hv⟩ := ownsRow_succ hown'
  rw [hv]
  have hall := hid ((World.grownBy_alloc w (.cells #[.string ⟨#[]⟩, .string ⟨#[]⟩] 93) (Value.slice a n c).ownBlock).trans hgrow)
  have hc1 := hall.out.cell hc HD.out
  have hf1 : w1.frozen? ⟨d, 7, none⟩ = false := (World.frozen?_of_block (w := w) (hall.out.block d lb HD.out)).trans HF.out
  clear hown' hgrow hv hc
  go_wp2
  go_end0
  exact ⟨rfl, w1, g', cap', hall.out, rfl⟩

set_option maxHeartbeats 4000000 in
set_option maxRecDepth 100000 in
theorem add7 (d : Nat) (a : Option Addr) (n c : Nat) (xs : List Value) (w : World) (hown : w.ownsRow 0 95 3 (.slice a n c) n xs) (hc : w.cell? ⟨d, 8, none⟩ = some (.slice a n c)) (hf : w.frozen? ⟨d, 8, none⟩ = false)
    (hd : some d ≠ (Value.slice a n c).ownBlock) (hn : n ≤ 1048576) :
    Calls Try.prog 8 #[.pointer (some ⟨d, 0, none⟩), .int .i64 6] w (APost d 6 n (Value.slice a n c).ownBlock w) := by
  obtain ⟨i0, hi, hz0, hz1, hz2⟩ := info_parts info95
  have HI := hid (And.intro hi (And.intro hz0 (And.intro hz1 hz2)))
  have HW := hid hown
  have HD := hid hd
  have HF := hid hf
  have lb := World.block_lt_of_cell? w _ hc
  simp only at lb
  clear hi hz0 hz1 hz2 hown hd hf
  go_enter Try.func8, Try.ntmps8
  go_wp2_with (at_builtin; refine wpList_append_own _ rfl _ _ 43 rfl 0 95 i0 (.agg #[.string ⟨#[]⟩, .string ⟨#[]⟩, .string ⟨#[]⟩]) 3 48 Try.underlying43 HI.out.1 HI.out.2.1 HI.out.2.2.1 HI.out.2.2.2 rfl (by decide) _ _ _ rfl (HW.out.alloc _) ⟨w.heap.size, 0, none⟩ 1 1 [.string ⟨#[]⟩, .string ⟨#[]⟩, .string ⟨#[]⟩] rfl rfl (news_at w _ 95) (by simp [Value.oneCell']) (by unfold maxLen; omega) (by omega) (Nat.zero_le _) ?_)
  intro v' w1 hown' hgrow _
  obtain ⟨g', cap', hv⟩ := ownsRow_succ hown'
  rw [hv]
  have hall := hid ((World.grownBy_alloc w (.cells #[.string ⟨#[]⟩, .string ⟨#[]⟩, .string ⟨#[]⟩] 95) (Value.slice a n c).ownBlock).trans hgrow)
  have hc1 := hall.out.cell hc HD.out
  have hf1 : w1.frozen? ⟨d, 8, none⟩ = false := (World.frozen?_of_block (w := w) (hall.out.block d lb HD.out)).trans HF.out
  clear hown' hgrow hv hc
  go_wp2
  go_end0
  exact ⟨rfl, w1, g', cap', hall.out, rfl⟩

set_option maxHeartbeats 4000000 in
set_option maxRecDepth 100000 in
theorem add8 (d : Nat) (a : Option Addr) (n c : Nat) (xs : List Value) (w : World) (hown : w.ownsRow 0 97 3 (.slice a n c) n xs) (hc : w.cell? ⟨d, 9, none⟩ = some (.slice a n c)) (hf : w.frozen? ⟨d, 9, none⟩ = false)
    (hd : some d ≠ (Value.slice a n c).ownBlock) (hn : n ≤ 1048576) :
    Calls Try.prog 8 #[.pointer (some ⟨d, 0, none⟩), .int .i64 7] w (APost d 7 n (Value.slice a n c).ownBlock w) := by
  obtain ⟨i0, hi, hz0, hz1, hz2⟩ := info_parts info97
  have HI := hid (And.intro hi (And.intro hz0 (And.intro hz1 hz2)))
  have HW := hid hown
  have HD := hid hd
  have HF := hid hf
  have lb := World.block_lt_of_cell? w _ hc
  simp only at lb
  clear hi hz0 hz1 hz2 hown hd hf
  go_enter Try.func8, Try.ntmps8
  go_wp2_with (at_builtin; refine wpList_append_own _ rfl _ _ 44 rfl 0 97 i0 (.agg #[.string ⟨#[]⟩, .string ⟨#[]⟩, .string ⟨#[]⟩]) 3 48 Try.underlying44 HI.out.1 HI.out.2.1 HI.out.2.2.1 HI.out.2.2.2 rfl (by decide) _ _ _ rfl (HW.out.alloc _) ⟨w.heap.size, 0, none⟩ 1 1 [.string ⟨#[]⟩, .string ⟨#[]⟩, .string ⟨#[]⟩] rfl rfl (news_at w _ 97) (by simp [Value.oneCell']) (by unfold maxLen; omega) (by omega) (Nat.zero_le _) ?_)
  intro v' w1 hown' hgrow _
  obtain ⟨g', cap', hv⟩ := ownsRow_succ hown'
  rw [hv]
  have hall := hid ((World.grownBy_alloc w (.cells #[.string ⟨#[]⟩, .string ⟨#[]⟩, .string ⟨#[]⟩] 97) (Value.slice a n c).ownBlock).trans hgrow)
  have hc1 := hall.out.cell hc HD.out
  have hf1 : w1.frozen? ⟨d, 9, none⟩ = false := (World.frozen?_of_block (w := w) (hall.out.block d lb HD.out)).trans HF.out
  clear hown' hgrow hv hc
  go_wp2
  go_end0
  exact ⟨rfl, w1, g', cap', hall.out, rfl⟩

set_option maxHeartbeats 4000000 in
set_option maxRecDepth 100000 in
theorem add9 (d : Nat) (a : Option Addr) (n c : Nat) (xs : List Value) (w : World) (hown : w.ownsRow 0 99 3 (.slice a n c) n xs) (hc : w.cell? ⟨d, 10, none⟩ = some (.slice a n c)) (hf : w.frozen? ⟨d, 10, none⟩ = false)
    (hd : some d ≠ (Value.slice a n c).ownBlock) (hn : n ≤ 1048576) :
    Calls Try.prog 8 #[.pointer (some ⟨d, 0, none⟩), .int .i64 8] w (APost d 8 n (Value.slice a n c).ownBlock w) := by
  obtain ⟨i0, hi, hz0, hz1, hz2⟩ := info_parts info99
  have HI := hid (And.intro hi (And.intro hz0 (And.intro hz1 hz2)))
  have HW := hid hown
  have HD := hid hd
  have HF := hid hf
  have lb := World.block_lt_of_cell? w _ hc
  simp only at lb
  clear hi hz0 hz1 hz2 hown hd hf
  go_enter Try.func8, Try.ntmps8
  go_wp2_with (at_builtin; refine wpList_append_own _ rfl _ _ 45 rfl 0 99 i0 (.agg #[.string ⟨#[]⟩, .string ⟨#[]⟩, .string ⟨#[]⟩]) 3 48 Try.underlying45 HI.out.1 HI.out.2.1 HI.out.2.2.1 HI.out.2.2.2 rfl (by decide) _ _ _ rfl (HW.out.alloc _) ⟨w.heap.size, 0, none⟩ 1 1 [.string ⟨#[]⟩, .string ⟨#[]⟩, .string ⟨#[]⟩] rfl rfl (news_at w _ 99) (by simp [Value.oneCell']) (by unfold maxLen; omega) (by omega) (Nat.zero_le _) ?_)
  intro v' w1 hown' hgrow _
  obtain ⟨g', cap', hv⟩ := ownsRow_succ hown'
  rw [hv]
  have hall := hid ((World.grownBy_alloc w (.cells #[.string ⟨#[]⟩, .string ⟨#[]⟩, .string ⟨#[]⟩] 99) (Value.slice a n c).ownBlock).trans hgrow)
  have hc1 := hall.out.cell hc HD.out
  have hf1 : w1.frozen? ⟨d, 10, none⟩ = false := (World.frozen?_of_block (w := w) (hall.out.block d lb HD.out)).trans HF.out
  clear hown' hgrow hv hc
  go_wp2
  go_end0
  exact ⟨rfl, w1, g', cap', hall.out, rfl⟩
end Go.Proofs.Qxb6613414a
