import Derived.Test.Qxb6613416aR9
namespace Go.Proofs.Qxb6613416a
open Go.RowKit Go.Maps

def kindI (e : Ent) : Int := if e.num then 1 else 0

/-- The four lists agree, up to n. -/
def Agree (w : World) (a1 a2 a3 a4 : Option Addr) (n : Nat) (L : List Ent) : Prop :=
  ∀ k, k < n → ∃ g1 g2 g3 g4, a1 = some ⟨g1, 0, none⟩ ∧ a2 = some ⟨g2, 0, none⟩ ∧ a3 = some ⟨g3, 0, none⟩ ∧ a4 = some ⟨g4, 0, none⟩ ∧
    w.cell? ⟨g1, k, none⟩ = some (.string (entAt L k).key) ∧ w.cell? ⟨g2, k, none⟩ = some (.string (entAt L k).text) ∧ w.cell? ⟨g3, k, none⟩ = some (.int .i64 (kindI (entAt L k))) ∧
    w.cell? ⟨g4, k * 4, none⟩ = some (.string (entAt L k).key) ∧ w.cell? ⟨g4, k * 4 + 1, none⟩ = some (.string (entAt L k).text) ∧ w.cell? ⟨g4, k * 4 + 2, none⟩ = some (.bool (entAt L k).num)

theorem kindOf_is (x : Ent) (w : World) : Calls Try.prog 19 #[.bool x.num] w fun e w' => e = .returned (.int .i64 (kindI x)) ∧ w' = w := by
  refine (kindOf_any x.num w).mono ?_
  rintro e w' ⟨rfl, rfl⟩
  refine ⟨?_, rfl⟩
  unfold kindI
  cases x.num <;> rfl

set_option maxHeartbeats 8000000 in
theorem lists_any (a1 a2 a3 a4 : Option Addr) (n m c1 c2 c3 c4 : Nat) (L : List Ent) (w : World) (hn : n ≤ m) (hm : m ≤ 4096) (h : Agree w a1 a2 a3 a4 n L) :
    Calls Try.prog 10 #[.slice a1 n c1, .slice a2 n c2, .slice a3 n c3, .slice a4 m c4, .int .i64 n] w fun e w' => e = .returned (.bool true) ∧ Below w.heap.size w w' := by
  have H := hid h
  clear h
  go_enter Try.func10, Try.ntmps10
  go_wp2
  go_loopw [11] (fun i wr => ∃ k : Nat, k ≤ n ∧ i = .int .i64 k ∧ Hid (Below w.heap.size w wr)) (fun i _ => n - (intOf i).toNat)
  case atStart => exact ⟨0, Nat.zero_le _, rfl, Below.refl _ _⟩
  case round =>
    obtain ⟨k, hk, rfl, HB⟩ := hrel
    by_cases hlt : k < n
    · obtain ⟨g1, g2, g3, g4, rfl, rfl, rfl, rfl, q1, q2, q3, q4, q5, q6⟩ := H.out k hlt
      have q1 := cell_on HB.out q1
      have q2 := cell_on HB.out q2
      have q3 := cell_on HB.out q3
      have q4 := cell_on HB.out q4
      have q5 := cell_on HB.out q5
      have q6 := cell_on HB.out q6
      generalize entAt L k = x at *
      go_wp2
      go_quiet ((go_at_call 19; refine Calls.quiet_of_same (kindOf_is x _)))
      go_wp2
      go_roundw
      case rel => exact ⟨k + 1, by omega, by go_num, below_drewN HB.out _⟩
      case measure => simp [intOf]; omega
    · go_wp2
      go_ret
      exact ⟨rfl, HB.out⟩
end Go.Proofs.Qxb6613416a
