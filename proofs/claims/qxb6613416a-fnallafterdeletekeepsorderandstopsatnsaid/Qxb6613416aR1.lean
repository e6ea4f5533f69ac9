import Derived.Test.Qxb6613416aR0
import Derived.Laws.EntriesVeiled
import Derived.WalkLawsBesides
namespace Go.Proofs.Qxb6613416a
open Go.RowKit Go.Maps

/-- A pair as it comes in. -/
structure Pr where
  key : ByteArray
  text : ByteArray
  num : Bool
  sca : Bool
def Pr.ent (p : Pr) : Ent := ⟨p.key, p.text, p.num⟩
def noPr : Pr := ⟨ByteArray.empty, ByteArray.empty, false, false⟩
def prAt (ps : List Pr) (k : Nat) : Pr := ps.getD k noPr

/-- The slice 'a' of n pairs reads as ps. -/
def PairRow (W : World) (a : Option Addr) (n : Nat) (ps : List Pr) : Prop :=
  ps.length = n ∧ ∀ k, k < n → ∃ b off, a = some ⟨b, off, none⟩ ∧ W.cell? ⟨b, off + k * 4, none⟩ = some (.string (prAt ps k).key) ∧ W.cell? ⟨b, off + k * 4 + 1, none⟩ = some (.string (prAt ps k).text) ∧
    W.cell? ⟨b, off + k * 4 + 2, none⟩ = some (.bool (prAt ps k).num) ∧ W.cell? ⟨b, off + k * 4 + 3, none⟩ = some (.bool (prAt ps k).sca)
theorem cell_on {w w' : World} {a : Addr} {v : Value} (hb : Below w.heap.size w w') (h : w.cell? a = some v) : w'.cell? a = some v :=
  (hb.cell (World.block_lt_of_cell? w a h)).trans h
theorem PairRow.below {W W' : World} {a : Option Addr} {n : Nat} {ps : List Pr} (h : PairRow W a n ps) (hb : Below W.heap.size W W') : PairRow W' a n ps := by
  refine ⟨h.1, fun k hk => ?_⟩
  obtain ⟨b, off, ha, h0, h1, h2, h3⟩ := h.2 k hk
  exact ⟨b, off, ha, cell_on hb h0, cell_on hb h1, cell_on hb h2, cell_on hb h3⟩

def BytesPost (n : Nat) (e : Ending) : Prop := ∃ b : Bool, e = .returned (.bool b) ∧ (b = true → n ≤ 1048576)
theorem BytesPost.no {n : Nat} {e : Ending} (h : e = .returned (.bool false)) : BytesPost n e := ⟨false, h, fun h => by cases h⟩

set_option maxHeartbeats 4000000 in
theorem bytes1 (a : Option Addr) (n c : Nat) (ps : List Pr) (w : World) (h : PairRow w a n ps) (hn : n ≤ maxLen) :
    Calls Try.prog 5 #[.slice a n c] w fun e w' => BytesPost n e ∧ w' = w := by
  unfold maxLen at hn
  by_cases c2 : 1048576 < n
  · clear h
    go_enter Try.func5, Try.ntmps5
    go_wp2
    go_ret
    exact ⟨BytesPost.no rfl, rfl⟩
  have H := hid h
  clear h
  go_enter Try.func5, Try.ntmps5
  go_wp2
  go_loop [3, 4] (fun z i => ∃ (k : Nat) (T : Int), k ≤ n ∧ 0 ≤ T ∧ T ≤ 1048576 ∧ i = .int .i64 k ∧ z = .int .i64 T) (fun _ i => n - (intOf i).toNat)
  case atStart => exact ⟨0, _, Nat.zero_le _, by omega, by omega, rfl, rfl⟩
  case round =>
    obtain ⟨k, T, hk, hT0, hT1, rfl, rfl⟩ := hrel
    by_cases hlt : k < n
    · obtain ⟨b, off, rfl, q0, q1, q2, q3⟩ := H.out.2 k hlt
      generalize prAt ps k = p at *
      go_wp2
      all_goals first
        | (go_ret; exact ⟨BytesPost.no rfl, rfl⟩)
        | (go_round; (case rel => exact ⟨k + 1, _, by omega, by omega, by omega, by go_num, rfl⟩); (case measure => simp [intOf]; omega))
    · go_wp2
      go_ret
      exact ⟨⟨true, rfl, fun _ => by omega⟩, rfl⟩

set_option maxHeartbeats 4000000 in
theorem bytes2 (a : Option Addr) (n c : Nat) (ps : List Pr) (key : ByteArray) (m : Int) (w : World) (h : PairRow w a n ps) (hn : n ≤ maxLen) (hkey : key.size ≤ maxLen) :
    Calls Try.prog 11 #[.slice a n c, .string key, .int .i64 m] w fun e w' => BytesPost n e ∧ w' = w := by
  unfold maxLen at hn hkey
  by_cases c2 : 1048576 < n
  · clear h
    go_enter Try.func11, Try.ntmps11
    go_wp2
    go_ret
    exact ⟨BytesPost.no rfl, rfl⟩
  have H := hid h
  clear h
  go_enter Try.func11, Try.ntmps11
  go_wp2
  go_loop [7, 8] (fun z i => ∃ (k : Nat) (T : Int), k ≤ n ∧ 0 ≤ T ∧ T ≤ 1048576 ∧ i = .int .i64 k ∧ z = .int .i64 T) (fun _ i => n - (intOf i).toNat)
  case atStart => exact ⟨0, _, Nat.zero_le _, by omega, by omega, rfl, rfl⟩
  case round =>
    obtain ⟨k, T, hk, hT0, hT1, rfl, rfl⟩ := hrel
    by_cases hlt : k < n
    · obtain ⟨b, off, rfl, q0, q1, q2, q3⟩ := H.out.2 k hlt
      generalize prAt ps k = p at *
      go_wp2
      all_goals first
        | (go_ret; exact ⟨BytesPost.no rfl, rfl⟩)
        | (go_round; (case rel => exact ⟨k + 1, _, by omega, by omega, by omega, by go_num, rfl⟩); (case measure => simp [intOf]; omega))
    · go_wp2
      all_goals (go_ret; first | exact ⟨BytesPost.no rfl, rfl⟩ | exact ⟨⟨true, rfl, fun _ => by omega⟩, rfl⟩)

def IntPost (e : Ending) : Prop := ∃ r : Int, e = .returned (.int .i64 r)

set_option maxHeartbeats 4000000 in
theorem addPairs_any (t : Int) (a : Option Addr) (n c : Nat) (ps : List Pr) (w : World) (h : PairRow w a n ps) (hn : n ≤ 1048576) (ht0 : 0 ≤ t) (ht1 : t ≤ 1048576) :
    Calls Try.prog 6 #[.int .i64 t, .slice a n c] w fun e w' => IntPost e ∧ w' = w := by
  have H := hid h
  clear h
  go_enter Try.func6, Try.ntmps6
  go_wp2
  go_loop [0, 5, 6, 7] (fun z i _ _ => ∃ (k : Nat) (T : Int), k ≤ n ∧ 0 ≤ T ∧ T ≤ 4194304 ∧ i = .int .i64 k ∧ z = .int .i64 T) (fun _ i _ _ => n - (intOf i).toNat)
  case atStart => exact ⟨0, _, Nat.zero_le _, by omega, by omega, rfl, rfl⟩
  case round =>
    obtain ⟨k, T, hk, hT0, hT1, rfl, rfl⟩ := hrel
    by_cases hlt : k < n
    · rcases Int.lt_or_le 1048576 T with hTl | hTl
      · go_wp2
        go_ret
        exact ⟨⟨_, rfl⟩, rfl⟩
      · obtain ⟨b, off, rfl, q0, q1, q2, q3⟩ := H.out.2 k hlt
        generalize prAt ps k = p at *
        by_cases ck : 1048576 < p.key.size
        · go_wp2
          go_ret
          exact ⟨⟨_, rfl⟩, rfl⟩
        by_cases ct : 1048576 < p.text.size
        · go_wp2
          go_ret
          exact ⟨⟨_, rfl⟩, rfl⟩
        go_wp2
        go_round
        case rel => exact ⟨k + 1, _, by omega, by omega, by omega, by go_num, rfl⟩
        case measure => simp [intOf]; omega
    · go_wp2
      go_ret
      exact ⟨⟨_, rfl⟩, rfl⟩

theorem kindOf_any (x : Bool) (w : World) : Calls Try.prog 19 #[.bool x] w fun e w' => e = .returned (.int .i64 (if x then 1 else 0)) ∧ w' = w := by
  cases x
  all_goals
    go_enter Try.func19, Try.ntmps19
    go_wp2
    go_ret
    exact ⟨rfl, rfl⟩

/-- The value v, held in a member, stands for the entry's text. -/
def Rep (W : World) (e : Ent) (v : Value) : Prop :=
  (v = .iface 9 (.string e.text) ∧ e.num = false) ∨ (v = .iface 66 (.string e.text) ∧ e.num = true) ∨
  ∃ b, v = .iface 68 (.pointer (some ⟨b, 0, none⟩)) ∧ W.cell? ⟨b, 0, none⟩ = some (.string e.text) ∧ W.cell? ⟨b, 1, none⟩ = some (.bool e.num)
theorem Rep.below {W W' : World} {e : Ent} {v : Value} (h : Rep W e v) (hb : Below W.heap.size W W') : Rep W' e v := by
  rcases h with h | h | ⟨b, h, h1, h2⟩
  · exact .inl h
  · exact .inr (.inl h)
  · exact .inr (.inr ⟨b, h, cell_on hb h1, cell_on hb h2⟩)

set_option maxHeartbeats 800000 in
theorem scalarMember (k t : ByteArray) (x : Bool) (w : World) :
    Calls Try.prog 22 #[.string k, .string t, .bool x] w fun e w' => e = .returned (.agg #[.string k, .iface 68 (.pointer (some ⟨w.heap.size + 1, 0, none⟩))]) ∧ Rep w' ⟨k, t, x⟩ (.iface 68 (.pointer (some ⟨w.heap.size + 1, 0, none⟩))) ∧ Below w.heap.size w w' := by
  go_enter Try.func22, Try.ntmps22
  go_wp2
  refine bodyPost_ret (v := .agg #[.string k, .iface 68 (.pointer (some ⟨w.heap.size + 1, 0, none⟩))]) (by simp [results, Try.results22, go_sem]) rfl ⟨rfl, .inr (.inr ⟨_, rfl, ?_, ?_⟩), ((Below.refl _ _).alloc (Nat.le_refl _) _).alloc (by simp) _⟩
  · simp
  · simp
set_option maxHeartbeats 800000 in
theorem numberMember (k t : ByteArray) (w : World) :
    Calls Try.prog 23 #[.string k, .string t] w fun e w' => e = .returned (.agg #[.string k, .iface 66 (.string t)]) ∧ Below w.heap.size w w' := by
  go_enter Try.func23, Try.ntmps23
  go_wp2
  exact bodyPost_ret (v := .agg #[.string k, .iface 66 (.string t)]) (by simp [results, Try.results23, go_sem]) rfl ⟨rfl, (Below.refl _ _).alloc (Nat.le_refl _) _⟩
set_option maxHeartbeats 800000 in
theorem stringMember (k t : ByteArray) (w : World) :
    Calls Try.prog 24 #[.string k, .string t] w fun e w' => e = .returned (.agg #[.string k, .iface 9 (.string t)]) ∧ Below w.heap.size w w' := by
  go_enter Try.func24, Try.ntmps24
  go_wp2
  exact bodyPost_ret (v := .agg #[.string k, .iface 9 (.string t)]) (by simp [results, Try.results24, go_sem]) rfl ⟨rfl, (Below.refl _ _).alloc (Nat.le_refl _) _⟩

/-- The value as All gives it. -/
def givenV (e : Ent) : Value := if e.num then .iface 66 (.string e.text) else .iface 9 (.string e.text)

end Go.Proofs.Qxb6613416a
