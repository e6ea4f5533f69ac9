import Derived.Test.Qxb6613416aR2
namespace Go.Proofs.Qxb6613416a
open Go.RowKit Go.Maps

def entAt (L : List Ent) (k : Nat) : Ent := L.getD k noEnt
theorem entAt_eq {L : List Ent} {k : Nat} (h : k < L.length) : entAt L k = L[k] := by simp [entAt, h]

/-- What search hands back. -/
def found (L : List Ent) (key : ByteArray) : Value := .tuple #[.int .i64 (((findE L key).getD 0 : Nat) : Int), .bool (findE L key).isSome]

theorem found_hit {L : List Ent} {key : ByteArray} {k : Nat} (hk : k < L.length) (hno : ∀ j, j < k → hit key (entAt L j) = false) (hy : ((entAt L k).key.toList == key.toList) = true) : found L key = .tuple #[.int .i64 (k : Int), .bool true] := by
  have : findE L key = some k := by
    refine findE_mk hk ?_ (fun j hj => ?_)
    · rw [← entAt_eq hk]; exact hy
    · have := hno j hj
      rwa [entAt_eq (by omega)] at this
  rw [found, this]
  rfl
theorem found_none {L : List Ent} {key : ByteArray} (hno : ∀ j, j < L.length → hit key (entAt L j) = false) : found L key = .tuple #[.int .i64 0, .bool false] := by
  have : findE L key = none := by
    rw [findE_none]
    intro e he
    obtain ⟨i, hi, rfl⟩ := List.getElem_of_mem he
    have := hno i hi
    rwa [entAt_eq hi] at this
  rw [found, this]
  rfl
theorem hit_step {L : List Ent} {key : ByteArray} {k : Nat} (hno : ∀ j, j < k → hit key (entAt L j) = false) (h : ((entAt L k).key.toList == key.toList) = false) : ∀ j, j < k + 1 → hit key (entAt L j) = false := by
  intro j hj
  rcases Nat.lt_succ_iff_lt_or_eq.1 hj with hj | rfl
  · exact hno j hj
  · exact h

set_option maxHeartbeats 4000000 in
theorem search_small (ob r n cap : Nat) (L : List Ent) (key : ByteArray) (w : World) (hL : L.length = n) (hn : n ≤ 64)
    (c0 : w.cell? ⟨ob, 0, none⟩ = some (.slice (some ⟨r, 0, none⟩) n cap)) (hm : ∀ k, k < n → w.cell? ⟨r, k * 2, none⟩ = some (.string (entAt L k).key)) :
    Calls Try.prog 20 #[.pointer (some ⟨ob, 0, none⟩), .string key] w fun e w' => e = .returned (found L key) ∧ w' = w := by
  have HM := hid hm
  clear hm
  have HL := hid hL
  clear hL
  go_enter Try.func20, Try.ntmps20
  go_wp2
  go_loop [22, 6] (fun i _ => ∃ k : Nat, k ≤ n ∧ i = .int .i64 k ∧ Hid (∀ j, j < k → hit key (entAt L j) = false)) (fun i _ => n - (intOf i).toNat)
  case atStart => exact ⟨0, Nat.zero_le _, rfl, fun j hj => absurd hj (Nat.not_lt_zero _)⟩
  case round =>
    obtain ⟨k, hk, rfl, hno⟩ := hrel
    by_cases hlt : k < n
    · have q0 := HM.out k hlt
      obtain ⟨s, hs⟩ : ∃ s, s = (entAt L k).key := ⟨_, rfl⟩
      rw [← hs] at q0
      have HS := hid hs
      clear hs
      cases heq : s.toList == key.toList
      case true =>
        go_wp2
        go_ret2
        exact ⟨by rw [found_hit (by rw [HL.out]; exact hlt) hno.out (by rw [← HS.out]; exact heq)]; rfl, rfl⟩
      case false =>
        go_wp2
        go_round
        case rel => exact ⟨k + 1, by omega, by go_num, hit_step hno.out (by rw [← HS.out]; exact heq)⟩
        case measure => simp [intOf]; omega
    · go_wp2
      go_ret2
      obtain rfl : k = n := by omega
      exact ⟨by rw [found_none (by rw [HL.out]; exact hno.out)]; rfl, rfl⟩

theorem law9 : Keyed Try.prog 9 := string_keyed Try.underlying9
theorem zero3 (w : World) : (zeroValue 3).run Try.prog w = .ok (.int .i64 0) w := by kernel_rfl

theorem meq_some (b : Nat) (w : World) : (binOp .eql 56 (.map (some b)) (.map none)).run Try.prog w = .ok (.bool false) w := by kernel_rfl
theorem meq_none (w : World) : (binOp .eql 56 (.map none) (.map none)).run Try.prog w = .ok (.bool true) w := by kernel_rfl
theorem mne_some (b : Nat) (w : World) : (binOp .neq 56 (.map (some b)) (.map none)).run Try.prog w = .ok (.bool true) w := by kernel_rfl
theorem mne_none (w : World) : (binOp .neq 56 (.map none) (.map none)).run Try.prog w = .ok (.bool false) w := by kernel_rfl

theorem found_map {D : DataW Unit} {L : List Ent} {key : ByteArray} {c : Int} (h : IdxIs D L) (hc : D.atKey (keyL key) (.lit (.int .i64 0)) = .lit (.int .i64 c)) :
    found L key = .tuple #[.int .i64 c, .bool (Maps.has D (keyL key))] := by
  have e := (h key).2
  rw [hc] at e
  have e' : c = (((findE L key).getD 0 : Nat) : Int) := by simpa using e
  rw [found, (h key).1, e']

set_option maxHeartbeats 4000000 in
theorem search_map (ob r n cap mb nm : Nat) (D : DataW Unit) (L : List Ent) (key : ByteArray) (w : World) (hkey : key.size ≤ maxLen) (hn : 64 < n) (hn2 : n ≤ 1048576)
    (c0 : w.cell? ⟨ob, 0, none⟩ = some (.slice (some ⟨r, 0, none⟩) n cap)) (c1 : w.cell? ⟨ob, 1, none⟩ = some (.map (some mb))) (hown : w.ownsMap Try.prog 9 (plainElem Try.prog 3) mb nm D) (hD : IdxIs D L) :
    Calls Try.prog 20 #[.pointer (some ⟨ob, 0, none⟩), .string key] w fun e w' => e = .returned (found L key) ∧ w' = w := by
  have HD := hid hD
  clear hD
  have HK : Hid (keyOf Try.prog 9 (.string key) = some (keyL key)) := WideMaps.keyOf_string_mk Try.underlying9 hkey
  clear hkey
  have HO := hid hown
  clear hown
  have hmq := meq_some
  go_enter Try.func20, Try.ntmps20
  go_wp2_with (first
    | (at_lookup; refine wpList_lookup_own_ok_int _ rfl _ _ 56 rfl 9 3 .i64 law9 Try.underlying56 Try.underlying3 (zero3 _) mb nm D rfl HO.out _ _ rfl HK.out ?_; intro c hat hwc; have HAT := hid hat; clear hat)
    | fail)
  go_ret2
  exact ⟨by rw [found_map HD.out HAT.out]; rfl, rfl⟩
end Go.Proofs.Qxb6613416a
