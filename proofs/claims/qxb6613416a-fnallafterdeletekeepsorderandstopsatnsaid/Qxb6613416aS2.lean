import Derived.Test.Qxb6613416aS1
import Derived.RangeFuncNested
import Derived.RangeFuncBound
import Derived.RangeFuncCalls
import Derived.RangeFuncLeaves
import Derived.Shelf.Abstract
import Derived.Shelf.RegionOpen
import Derived.OwnWalkIn
import Derived.TacticsInMore
import Derived.LoopNIn
import Derived.LoopIn
import Derived.Maps.OwnIn
import Derived.Maps.AppendAt
namespace Go.Proofs.Qxb6613416a
open Go.RowKit Go.Maps Go.Shelf

attribute [local go_sem] Oper.semAt_some

/-- yield's word, both ways in one. -/
def YieldPost (n₀ : Nat) (J Jx : List Ent → World → Prop) (pre : List Ent) (W : World) (e : Ending) (W' : World) : Prop :=
  ∃ b : Bool, e = .returned (.bool b) ∧ (b = true → J pre W' ∧ Below n₀ W W') ∧ (b = false → Jx pre W')

theorem grown_drew (W : World) : W.grownBy W.drew none := ⟨rfl, rfl, rfl, Nat.le_refl _, fun _ _ _ => rfl⟩

theorem take_succ_ents {M : List Mem} {k : Nat} (h : k < M.length) : (ents M).take (k + 1) = (ents M).take k ++ [(memAt M k).1] := by
  rw [List.take_succ_eq_append_getElem (by rw [ents_length]; exact h), memAt_eq h]
  simp [ents]

set_option maxRecDepth 100000 in
set_option maxHeartbeats 8000000 in
theorem all1_in (n : Nat) (hn : 1 ≤ n) (l Bo ob r cap : Nat) (M : List Mem) (hlen : M.length ≤ 4096) (w0 : World) (hc0 : w0.cell? ⟨ob, 0, none⟩ = some (.slice (some ⟨r, 0, none⟩) M.length cap))
    (hm : ∀ k, k < M.length → w0.cell? ⟨r, k * 2, none⟩ = some (.string (memAt M k).1.key) ∧ w0.cell? ⟨r, k * 2 + 1, none⟩ = some (.iface (memAt M k).2.1 (memAt M k).2.2)) (hh : ∀ k, k < M.length → Held w0 (memAt M k).1 (.iface (memAt M k).2.1 (memAt M k).2.2))
    (J Jx : List Ent → World → Prop) (W : World) (hJ : AbidesFrom W.heap.size J)
    (hY : ∀ pre x W, J pre W → pre.length < M.length → YieldAt Fence.wide (n - 1) Try.prog l #[.string x.key, givenV x] W fun e W' =>
      (e = .returned (.bool true) ∧ J (pre ++ [x]) W' ∧ Below w0.heap.size W W') ∨ (e = .returned (.bool false) ∧ Jx (pre ++ [x]) W'))
    (hBo : W.cell? ⟨Bo, 0, none⟩ = some (.pointer (some ⟨ob, 0, none⟩))) (hW : Below w0.heap.size w0 W) (h0 : J [] W) :
    CallsIn Fence.wide n Try.prog 25 #[.func (.yield l) #[] #[], .pointer (some ⟨Bo, 0, none⟩)] W fun e W' => (∃ v, e = .returned v) ∧
      ((∃ ys, ys = ents M ∧ J ys W') ∨ (∃ pre, (∃ k, k ≤ M.length ∧ pre = (ents M).take k) ∧ Jx pre W')) := by
  have c0 := cell_on hW hc0
  have HM := hid hm
  have HH := hid hh
  clear hm hh
  refine callsIn_of_wp Try.func25 rfl trivial ?_ rfl
  simp only [Try.ntmps25, List.size_toArray, List.length_cons, List.length_nil, Nat.reduceAdd, Nat.reduceSub, Array.replicate_succ, Array.replicate_zero, List.push_toArray, List.append_toArray, List.nil_append, List.cons_append]
  gi_wp2
  gi_loopw [10, 4] (fun i _ wr => ∃ k : Nat, k ≤ M.length ∧ i = .int .i64 k ∧ Hid (J ((ents M).take k) wr ∧ Below w0.heap.size w0 wr)) (fun i _ _ => M.length - (intOf i).toNat)
  case atStart => exact ⟨0, Nat.zero_le _, rfl, by simpa using h0, hW⟩
  case round =>
    obtain ⟨k, hk, rfl, HR⟩ := hrel
    by_cases hlt : k < M.length
    · obtain ⟨q0, q1⟩ := HM.out k hlt
      have q0 := cell_on HR.out.2 q0
      have q1 := cell_on HR.out.2 q1
      have hHk := (HH.out k hlt).below HR.out.2
      have hent : entAt (ents M) k = (memAt M k).1 := entAt_ents hlt
      obtain ⟨m, hmm⟩ : ∃ m, m = memAt M k := ⟨_, rfl⟩
      rw [← hmm] at q0 q1 hHk hent
      obtain ⟨x, t, v⟩ := m
      simp only at q0 q1 hHk hent
      have hRep := (hHk.alloc (.cells #[.string x.key, .iface t v] 60)).rep
      have HREP : Hid (Rep (wr.alloc (.cells #[.string x.key, .iface t v] 60)).drew x (.iface t v)) := hRep
      have hJ2 : J ((ents M).take k) (wr.alloc (.cells #[.string x.key, .iface t v] 60)).drew :=
        hJ _ _ _ none (hJ _ _ _ none HR.out.1 (World.grownBy_alloc wr _ none) (fun r h => by cases h)) (grown_drew _) (fun r h => by cases h)
      obtain ⟨fn, tmps, assign, body, hy, hR⟩ := (hY _ x _ hJ2 (by rw [List.length_take_of_le (by rw [ents_length]; omega)]; exact hlt)).mono (R' := YieldPost w0.heap.size J Jx ((ents M).take k ++ [x]) (wr.alloc (.cells #[.string x.key, .iface t v] 60)).drew)
        (by rintro e W' (⟨rfl, h1, h2⟩ | ⟨rfl, h1⟩); exact ⟨true, rfl, fun _ => ⟨h1, h2⟩, (fun h => by cases h)⟩; exact ⟨false, rfl, (fun h => by cases h), fun _ => h1⟩)
      have HR2 := hid hR
      have HE := hid (And.intro hent hmm)
      have hg : (givenV x) = givenV x := rfl
      clear hR hJ2 hRep hHk hent hmm hg hY
      have hmo : Try.prog.follows Departure.mixedOrders = true := by kernel_rfl
      gi_wp2
      gi_region_with_o (first
        | (refine ⟨trivial, ?_⟩; gi_at_call 26; refine (callsIn_wide.2 (given_any x (.iface t v) _ HREP.out)).mono ?_; rintro e w' ⟨rfl, rfl⟩)
        | (refine HR2.out.mono ?_; rintro e W3 ⟨b, rfl, hy1, hy2⟩; have HT := hid hy1; have HFF := hid hy2; clear hy1 hy2))
      all_goals
        cases b
        case true =>
          have hJ3 := (HT.out rfl).1
          have hB3 := (HT.out rfl).2
          have HJ3 := hid (And.intro hJ3 hB3)
          clear hJ3 hB3 HT HFF
          gi_wp2
          go_roundw
          case rel => exact ⟨k + 1, by omega, by go_num, by rw [take_succ_ents hlt, ← HE.out.2]; exact HJ3.out.1, (HR.out.2.alloc HR.out.2.size _).drew.trans HJ3.out.2⟩
          case measure => simp [intOf]; omega
        case false =>
          have HX := hid (HFF.out rfl)
          clear HT HFF
          gi_wp2
          refine bodyPost_ret (results_none rfl _ _ _) rfl ?_
          exact ⟨⟨_, rfl⟩, .inr ⟨_, ⟨k + 1, by omega, rfl⟩, by rw [take_succ_ents hlt, ← HE.out.2]; exact HX.out⟩⟩
    · obtain rfl : k = M.length := by omega
      gi_wp2
      go_end0
      exact ⟨⟨_, rfl⟩, .inl ⟨_, rfl, by have := HR.out.1; rwa [List.take_of_length_le (by rw [ents_length]; exact Nat.le_refl _)] at this⟩⟩

/-- What the iterator reads lies so at w0. -/
structure Ready (w0 : World) (ob : Nat) (M : List Mem) : Prop where
  len : M.length ≤ 4096
  ex : ∃ r cap, w0.cell? ⟨ob, 0, none⟩ = some (.slice (some ⟨r, 0, none⟩) M.length cap) ∧
    ∀ k, k < M.length → w0.cell? ⟨r, k * 2, none⟩ = some (.string (memAt M k).1.key) ∧ w0.cell? ⟨r, k * 2 + 1, none⟩ = some (.iface (memAt M k).2.1 (memAt M k).2.2)
  held : ∀ k, k < M.length → Held w0 (memAt M k).1 (.iface (memAt M k).2.1 (memAt M k).2.2)

theorem all_stops (n : Nat) (hn : 1 ≤ n) (Bo ob : Nat) (M : List Mem) (w0 w : World) (h : Ready w0 ob M) (hBo : w.cell? ⟨Bo, 0, none⟩ = some (.pointer (some ⟨ob, 0, none⟩))) (hw : Below w0.heap.size w0 w) :
    SeqStopsK Fence.wide n Try.prog 25 #[.pointer (some ⟨Bo, 0, none⟩)] (fun x : Ent => #[Value.string x.key, givenV x]) (Below w0.heap.size) (fun ys => ys = ents M)
      (fun pre => ∃ k, k ≤ M.length ∧ pre = (ents M).take k) M.length w := fun l J Jx W hW hJ _ hY h0 => by
  obtain ⟨len, ⟨r, cap, hc0, hm⟩, hh⟩ := h
  exact all1_in n hn l Bo ob r cap M len w0 hc0 hm hh J Jx W hJ hY (cell_on hW hBo) (hw.trans (hW.mono hw.size)) h0

set_option maxHeartbeats 1000000 in
theorem all_in (n : Nat) (p0 : Option Addr) (w : World) :
    CallsIn Fence.wide n Try.prog 16 #[.pointer p0] w fun e w' => e = .returned (.func (.func 25) #[] #[.pointer (some ⟨w.heap.size, 0, none⟩)]) ∧ w' = w.alloc (.cells #[.pointer p0] 25) := by
  refine callsIn_of_wp Try.func16 rfl trivial ?_ rfl
  simp only [Try.ntmps16, List.size_toArray, List.length_cons, List.length_nil, Nat.reduceAdd, Nat.reduceSub, Array.replicate_succ, Array.replicate_zero, List.push_toArray, List.append_toArray, List.nil_append, List.cons_append]
  gi_wp2
  go_ret
  exact ⟨rfl, rfl⟩
end Go.Proofs.Qxb6613416a
