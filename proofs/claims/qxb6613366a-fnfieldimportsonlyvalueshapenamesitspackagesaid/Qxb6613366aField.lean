import Derived.Test.Qxb6613366aRows
import Derived.WalkKit
import Derived.WalkSpells
import Derived.RegionTactic
import Derived.Deep.QuietTactic
import Derived.BigQuiet
import Derived.RowKit3
import Derived.WalkSmall
import Derived.Laws.EntriesVeiled
import Derived.Laws.Tables
import Derived.Laws.Rows
namespace Go.Proofs.Qxb6613366a.Fi
open Go.RowKit

/-- The cells of a 'field' that ZZnewField builds. -/
def fieldCells (s : Int) (nz : ByteArray) (d : Value) : Array Value :=
  #[.pointer none, .string ⟨#[]⟩, .string ⟨#[]⟩, .string ⟨#[]⟩, .int .i64 s, .string ⟨#[]⟩, .string ⟨#[]⟩, .int .u64 0, .string ⟨#[]⟩, .string nz,
    .int .i64 0, .string ⟨#[]⟩, .string ⟨#[]⟩, .string ⟨#[]⟩, .bool false, .nilFunc, .pointer none, .pointer none, .pointer none, .pointer none, .string ⟨#[]⟩, .string ⟨#[]⟩,
    .int .u64 0, .slice none 0 0, .bool false, .bool false, .string ⟨#[]⟩, .string ⟨#[]⟩, .bool false, d]

def kindCells (nz : ByteArray) : Array Value :=
  #[.string ⟨#[]⟩, .string ⟨#[]⟩, .int .u64 0, .string ⟨#[]⟩, .string nz, .int .i64 0, .string ⟨#[]⟩, .string ⟨#[]⟩, .string ⟨#[]⟩, .bool false, .nilFunc]

def defCells (d : Value) : Array Value := #[.string ⟨#[]⟩, .bool false, d]

theorem built45 (s : Int) (nz : ByteArray) (a : Option Addr) (n c : Nat) :
    Try.prog.built 45 [(4, .int .i64 s), (5, .agg (kindCells nz)), (17, .agg (defCells (.slice a n c)))] = some (fieldCells s nz (.slice a n c)) := by kernel_rfl

theorem built36 (nz : ByteArray) : Try.prog.built 36 [(4, .string nz)] = some (kindCells nz) := by kernel_rfl
theorem built43 (a : Option Addr) (n c : Nat) : Try.prog.built 43 [(2, .slice a n c)] = some (defCells (.slice a n c)) := by kernel_rfl

section
variable {P : Program}
theorem wpList_build_eq {ops : Array Oper} {rest : List Oper} {o : Oper} {a : Act} {w : World} {Q : Exit → Act → World → Prop} (hg : o.guard = none) (t : TypeId) (parts : Array (Nat × Operand)) (ho : o.op = .build t parts)
    (cells : Array Value) (hb : P.built t (parts.toList.map fun p => (p.1, a.eval p.2)) = some cells)
    (h : wpList P ops Q rest (a.put o.dst (.agg cells)) w) : wpList P ops Q (o :: rest) a w := by
  have e : (parts.map fun (i, x) => (i, a.eval x)).toList = parts.toList.map fun p => (p.1, a.eval p.2) := by simp
  rw [← e] at hb
  refine wpList_build hg t parts ho (by rw [hb]; rfl) ?_
  rw [hb]; exact h

theorem setRow_new (w : World) (old cells : Array Value) (t : TypeId) : (w.alloc (.cells old t)).setRow w.heap.size cells = w.alloc (.cells cells t) := by
  unfold World.setRow World.alloc
  simp only [World.mk.injEq, and_true]
  apply Array.ext
  · simp
  · intro i h1 h2
    simp only [Array.getElem_modify, Array.getElem_push]
    by_cases h : w.heap.size = i
    · subst h; simp
    · have : i < w.heap.size := by simp at h2; omega
      simp [h, this]

theorem wpList_store_new {ops : Array Oper} {rest : List Oper} {o : Oper} {a : Act} {w : World} {Q : Exit → Act → World → Prop} (hgd : o.guard = none) (ty : TypeId) (x y : Operand) (ho : o.op = .store ty x y)
    (cells : Array Value) (t : TypeId) (old : Array Value) (hx : a.eval x = .pointer (some ⟨w.heap.size, 0, none⟩)) (hy : a.eval y = .agg cells)
    (hi : (P.info? ty).map (·.size) = some cells.size)
    (hold : old.size = cells.size) (h1 : cells.all (·.oneCell') = true)
    (h : wpList P ops Q rest (a.put o.dst undef) (w.alloc (.cells cells t))) : wpList P ops Q (o :: rest) a (w.alloc (.cells old t)) :=
  wpList_store_row hgd ty x y ho w.heap.size cells hx hy t old (heap_alloc_new w _) hi hold h1 (by rw [setRow_new]; exact h)
end

theorem fieldCells_one (s : Int) (nz : ByteArray) (a : Option Addr) (n c : Nat) : (fieldCells s nz (.slice a n c)).all (·.oneCell') = true := by
  simp [fieldCells, Value.oneCell']
theorem info45 : (Try.prog.info? 45).map (·.size) = some 30 := by kernel_rfl

set_option maxHeartbeats 800000 in
set_option maxRecDepth 100000 in
theorem newField_any (s : Int) (nz : ByteArray) (a : Option Addr) (n c : Nat) (w : World) :
    Calls Try.prog 12 #[.int .i64 s, .string nz, .slice a n c] w fun e w' => e = .returned (.agg (fieldCells s nz (.slice a n c))) ∧ Below w.heap.size w w' := by
  go_enter Try.func12, Try.ntmps12
  go_wp2_with (first
    | (refine wpList_build_eq rfl 45 _ rfl (fieldCells s nz (.slice a n c)) ?_ ?_; exact built45 _ _ _ _ _)
    | (refine wpList_build_eq rfl 36 _ rfl (kindCells nz) ?_ ?_; exact built36 _)
    | (refine wpList_build_eq rfl 43 _ rfl (defCells (.slice a n c)) ?_ ?_; exact built43 _ _ _)
    | (refine wpList_store_new rfl 45 _ _ rfl (fieldCells s nz (.slice a n c)) 45 _ ?_ ?_ ?_ ?_ ?_ ?_; rfl; rfl; exact info45; rfl; exact fieldCells_one _ _ _ _ _))
  exact bodyPost_ret (results_cell_row rfl _ _ w.heap.size 45 _ _ _ rfl (heap_alloc_new w _) Try.underlying45 rfl info45) rfl ⟨rfl, (Below.refl _ _).alloc (Nat.le_refl _) _⟩

theorem f4 (s : Int) (nz : ByteArray) (d : Value) : (fieldCells s nz d)[4]? = some (.int .i64 s) := rfl
theorem f9 (s : Int) (nz : ByteArray) (d : Value) : (fieldCells s nz d)[9]? = some (.string nz) := rfl
theorem f29 (s : Int) (nz : ByteArray) (d : Value) : (fieldCells s nz d)[29]? = some d := rfl

set_option maxHeartbeats 800000 in
set_option maxRecDepth 100000 in
theorem imports_own (nz : ByteArray) (hnz : nz.toList.isEmpty = false) (a : Option Addr) (n c : Nat) (w : World) :
    Calls Try.prog 15 #[.agg (fieldCells 0 nz (.slice a n c))] w fun e w' =>
      (∃ g, e = .returned (.slice (some ⟨g, 0, none⟩) 1 1) ∧ w'.cell? ⟨g, 0, none⟩ = some (.string nz)) ∧ Below w.heap.size w w' := by
  have k4 := f4 0 nz (.slice a n c)
  have k9 := f9 0 nz (.slice a n c)
  have k29 := f29 0 nz (.slice a n c)
  go_enter Try.func15, Try.ntmps15
  go_wp2
  go_ret
  exact ⟨⟨_, rfl, by simp⟩, ((Below.refl _ _).alloc (Nat.le_refl _) _).alloc (by simp) _⟩

set_option maxHeartbeats 800000 in
set_option maxRecDepth 100000 in
theorem imports_def (s : Int) (h0 : 0 ≤ s) (h6 : s ≤ 6) (nz : ByteArray) (hnz : s = 0 → nz.toList.isEmpty = true) (a : Option Addr) (n c : Nat) (w : World) :
    Calls Try.prog 15 #[.agg (fieldCells s nz (.slice a n c))] w fun e w' => e = .returned (.slice a n c) ∧ Below w.heap.size w w' := by
  have k4 := f4 s nz (.slice a n c)
  have k9 := f9 s nz (.slice a n c)
  have k29 := f29 s nz (.slice a n c)
  by_cases hs : s = 0
  · have hz := hnz hs
    clear hnz
    subst hs
    go_enter Try.func15, Try.ntmps15
    go_wp2
    go_ret
    exact ⟨rfl, (Below.refl _ _).alloc (Nat.le_refl _) _⟩
  · have hz : (s == 0) = false := beq_eq_false_iff_ne.2 hs
    clear hnz
    go_enter Try.func15, Try.ntmps15
    go_wp2
    go_ret
    exact ⟨rfl, (Below.refl _ _).alloc (Nat.le_refl _) _⟩

theorem hid {p : Prop} (h : p) : Hid p := h

set_option maxHeartbeats 800000 in
set_option maxRecDepth 100000 in
theorem fieldImports_own (nz : ByteArray) (hnz : nz.toList.isEmpty = false) (a : Option Addr) (n c : Nat) (w : World) :
    Calls Try.prog 11 #[.agg (fieldCells 0 nz (.slice a n c))] w fun e w' =>
      (∃ g, e = .returned (.slice (some ⟨g, 0, none⟩) 1 1) ∧ w'.cell? ⟨g, 0, none⟩ = some (.string nz)) ∧ Below w.heap.size w w' := by
  have H := hid (imports_own nz hnz a n c)
  clear hnz
  go_enter Try.func11, Try.ntmps11
  go_wp2_with (refine wpList_load_row rfl 45 _ rfl w.heap.size rfl 45 _ _ _ (heap_alloc_new w _) Try.underlying45 rfl info45 ?_)
  refine (H.out _).mono ?_
  rintro e w1 ⟨⟨g, rfl, hc⟩, hb⟩
  go_wp2
  go_ret
  exact ⟨⟨_, rfl, hc⟩, ((Below.refl _ _).alloc (Nat.le_refl _) _).trans (hb.mono (by simp))⟩

set_option maxHeartbeats 800000 in
set_option maxRecDepth 100000 in
theorem fieldImports_def (s : Int) (h0 : 0 ≤ s) (h6 : s ≤ 6) (nz : ByteArray) (hnz : s = 0 → nz.toList.isEmpty = true) (a : Option Addr) (n c : Nat) (w : World) :
    Calls Try.prog 11 #[.agg (fieldCells s nz (.slice a n c))] w fun e w' => e = .returned (.slice a n c) ∧ Below w.heap.size w w' := by
  have H := hid (imports_def s h0 h6 nz hnz a n c)
  clear hnz
  go_enter Try.func11, Try.ntmps11
  go_wp2_with (refine wpList_load_row rfl 45 _ rfl w.heap.size rfl 45 _ _ _ (heap_alloc_new w _) Try.underlying45 rfl info45 ?_)
  refine (H.out _).mono ?_
  rintro e w1 ⟨rfl, hb⟩
  go_wp2
  go_ret
  exact ⟨rfl, ((Below.refl _ _).alloc (Nat.le_refl _) _).trans (hb.mono (by simp))⟩

/-- What lies at place i. -/
def strAt (ss : List ByteArray) (i : Nat) : ByteArray := ss.getD i ByteArray.empty

/-- The slice 'a' of n strings reads as ss. -/
def StrRow (w : World) (a : Option Addr) (n : Nat) (ss : List ByteArray) : Prop :=
  ss.length = n ∧ ∀ i, i < n → ∃ b off, a = some ⟨b, off, none⟩ ∧ w.cell? ⟨b, off + i, none⟩ = some (.string (strAt ss i))

theorem StrRow.below {w w' : World} {a : Option Addr} {n : Nat} {ss : List ByteArray} (h : StrRow w a n ss) (hb : Below w.heap.size w w') : StrRow w' a n ss := by
  refine ⟨h.1, fun i hi => ?_⟩
  obtain ⟨b, off, ha, hc⟩ := h.2 i hi
  exact ⟨b, off, ha, (hb.cell (p := ⟨b, off + i, none⟩) (World.block_lt_of_cell? w _ hc)).trans hc⟩

theorem StrRow.drewN {w : World} {a : Option Addr} {n : Nat} {ss : List ByteArray} (h : StrRow w a n ss) (m : Nat) : StrRow (w.drewN m) a n ss := h

theorem drew2 (w : World) (m n : Nat) : ∃ k, (w.drewN m).drewN n = w.drewN k := ⟨m + n, by simp⟩

/-- The same strings. -/
def sameB (ss ss' : List ByteArray) : Bool := decide (ss = ss')

theorem same_of (ss ss' : List ByteArray) (hl : ss.length = ss'.length) (h : ∀ j, j < ss.length → strAt ss j = strAt ss' j) : sameB ss ss' = true := by
  unfold sameB
  rw [decide_eq_true_iff]
  apply List.ext_getElem hl
  intro i h1 h2
  have := h i h1
  unfold strAt at this
  rw [List.getD_eq_getElem?_getD, List.getD_eq_getElem?_getD, List.getElem?_eq_getElem h1, List.getElem?_eq_getElem h2] at this
  exact this

theorem not_same_len (ss ss' : List ByteArray) (hl : ss.length ≠ ss'.length) : sameB ss ss' = false := by
  unfold sameB
  rw [decide_eq_false_iff_not]
  rintro rfl; exact hl rfl

theorem not_same_at (ss ss' : List ByteArray) (k : Nat) (h : strAt ss k ≠ strAt ss' k) : sameB ss ss' = false := by
  unfold sameB
  rw [decide_eq_false_iff_not]
  rintro rfl; exact h rfl

theorem bytes_eq (s t : ByteArray) (h : (s.toList == t.toList) = true) : s = t := by
  rw [beq_iff_eq, ByteArray.toList_eq, ByteArray.toList_eq] at h
  cases s; cases t; simp at h; rw [h]

theorem bytes_ne (s t : ByteArray) (h : (s.toList == t.toList) = false) : s ≠ t := by
  rintro rfl; simp at h

set_option maxHeartbeats 800000 in
theorem same_any (a a' : Option Addr) (n n' c c' : Nat) (ss ss' : List ByteArray) (w : World) (h : StrRow w a n ss) (h' : StrRow w a' n' ss') (hn : n ≤ 1048576) (hn' : n' ≤ 1048576) :
    Calls Try.prog 13 #[.slice a n c, .slice a' n' c'] w fun e w' => e = .returned (.bool (sameB ss ss')) ∧ ∃ m, w' = w.drewN m := by
  by_cases hl : n = n'
  · subst hl
    have e0 : ((n : Int) == (n : Int)) = true := by simp
    have H := hid h
    have H' := hid h'
    clear h h'
    go_enter Try.func13, Try.ntmps13
    go_wp2
    go_loopw [5] (fun i wr => ∃ k : Nat, k ≤ n ∧ i = .int .i64 k ∧ Hid (∀ j, j < k → strAt ss j = strAt ss' j) ∧ ∃ m, wr = w.drewN m) (fun i _ => n - (intOf i).toNat)
    case atStart => exact ⟨0, Nat.zero_le _, rfl, hid (fun j hj => absurd hj (Nat.not_lt_zero _)), 0, rfl⟩
    case round =>
      obtain ⟨k, hk, rfl, hsame, m, rfl⟩ := hrel
      by_cases hlt : k < n
      · obtain ⟨b, off, rfl, hc⟩ := H.out.2 k hlt
        obtain ⟨b', off', rfl, hc'⟩ := H'.out.2 k hlt
        cases hq : ((strAt ss k).toList == (strAt ss' k).toList) with
        | true =>
          have Hq := hid hq
          have i0 : (0 : Int) ≤ (k : Int) := by omega
          have i1 : (k : Int) < (n : Int) := by omega
          go_wp2
          go_quiet (fail)
          go_wp2
          go_roundw
          case rel => exact ⟨k + 1, by omega, by go_num, hid (fun j hj => by
            by_cases hjk : j = k
            · subst hjk; exact bytes_eq _ _ Hq.out
            · exact hsame.out j (by omega)), _, rfl⟩
          case measure => simp [intOf]; omega
        | false =>
          have Hq := hid hq
          go_wp2
          go_quiet (fail)
          go_wp2
          go_ret
          exact ⟨by rw [not_same_at ss ss' k (bytes_ne _ _ Hq.out)]; rfl, drew2 _ _ _⟩
      · go_wp2
        go_ret
        exact ⟨by rw [same_of ss ss' (by rw [H.out.1, H'.out.1]) (fun j hj => hsame.out j (by have := H.out.1; omega))]; rfl, _, rfl⟩
  · have e0 : ((n : Int) == (n' : Int)) = false := by simp; omega
    have H := hid h
    have H' := hid h'
    have Hl := hid hl
    clear h h' hl
    go_enter Try.func13, Try.ntmps13
    go_wp2
    go_ret
    exact ⟨by rw [not_same_len ss ss' (by rw [H.out.1, H'.out.1]; exact Hl.out)]; rfl, 0, rfl⟩

theorem info9 : (Try.prog.info? 9).map (fun i => (i.zero, i.size, i.bytes)) = some (some (.string ⟨#[]⟩), 1, 16) := by kernel_rfl

set_option maxHeartbeats 1600000 in
theorem clone_some (ad : Addr) (n c : Nat) (ss : List ByteArray) (w : World) (h : StrRow w (some ad) n ss) (hn : n ≤ 1048576) :
    Calls Try.prog 10 #[.slice (some ad) n c] w fun e w' => (∃ g, e = .returned (.slice (some ⟨g, 0, none⟩) n n) ∧ StrRow w' (some ⟨g, 0, none⟩) n ss) ∧ Below w.heap.size w w' := by
  obtain ⟨i0, hi, hz0, hz1, hz2⟩ := info_parts info9
  have hnil := fun (w : World) => Lib.run_eql_slice_nil (P := Try.prog) w 23 9 (some ad) n c 0 0 Try.underlying23
  have H := hid h
  have HI := hid (And.intro hi (And.intro hz0 (And.intro hz1 hz2)))
  clear h hi hz0 hz1 hz2
  go_enter Try.func10, Try.ntmps10
  go_wp2_with (at_make; refine wpList_make_full _ rfl _ _ 23 rfl w.heap.size 9 i0 (.string ⟨#[]⟩) 1 Try.underlying23 HI.out.1 HI.out.2.1 HI.out.2.2.1 _ _ _ _ n rfl rfl rfl rfl (by rw [HI.out.2.2.2]; omega) (by unfold maxLen; omega) (Nat.le_refl _) ?_)
  intro w1 hown hgrow
  have hb1 : Below w.heap.size w w1 := (Below.refl _ _).grown hgrow (Nat.le_refl _) (fun k hk => by cases hk)
  have HO := hid hown
  have HB := hid hb1
  clear hown hgrow hb1
  go_wp2
  go_loopw [4] (fun i wr => ∃ k : Nat, k ≤ n ∧ i = .int .i64 k ∧ Hid (∃ xs, wr.ownsRow w.heap.size 9 1 (.slice (some ⟨w.heap.size, 0, none⟩) n n) n xs ∧ ∀ j, j < k → xs[j]? = some (.string (strAt ss j))) ∧ Hid (Below w.heap.size w wr)) (fun i _ => n - (intOf i).toNat)
  case atStart => exact ⟨0, Nat.zero_le _, rfl, hid ⟨_, HO.out, fun j hj => absurd hj (Nat.not_lt_zero _)⟩, HB⟩
  case round =>
    obtain ⟨k, hk, rfl, hx, hbl⟩ := hrel
    by_cases hlt : k < n
    · obtain ⟨xs, hown, hxs⟩ := hx.out
      obtain ⟨b, off, hab, hc⟩ := H.out.2 k hlt
      have hlen : xs.length = n * 1 := hown.1
      have hcx : wr.cell? ⟨b, off + k, none⟩ = some (.string (strAt ss k)) := (hbl.out.cell (p := ⟨b, off + k, none⟩) (World.block_lt_of_cell? w _ hc)).trans hc
      have hcell : wr.cell? ⟨w.heap.size, k, none⟩ = some (xs[k]'(by omega)) := (hown.cellAt k (by omega)).trans (List.getElem?_eq_getElem _)
      have hfr : wr.frozen? ⟨w.heap.size, k, none⟩ = false := hown.frozenAt k
      have hst := hown.stored k (.string (strAt ss k))
      have R : Hid (∃ xs', (wr.setCell ⟨w.heap.size, k, none⟩ (.string (strAt ss k))).ownsRow w.heap.size 9 1 (.slice (some ⟨w.heap.size, 0, none⟩) n n) n xs' ∧ ∀ j, j < k + 1 → xs'[j]? = some (.string (strAt ss j))) := by
        refine hid ⟨_, hst.1, fun j hj => ?_⟩
        by_cases hjk : j = k
        · subst hjk; rw [List.getElem?_set_self (by omega)]
        · rw [List.getElem?_set_ne (by omega)]; exact hxs j (by omega)
      generalize xs[k]'(by omega) = v0 at hcell
      have HA := hid hab
      clear hst hown hxs hc hab hlen hx
      rw [HA.out] at *
      go_wp2
      go_roundw
      case rel => exact ⟨k + 1, by omega, by go_num, R, hid (hbl.out.setCell (p := ⟨w.heap.size, k, none⟩) (Nat.le_refl _) _)⟩
      case measure => simp [intOf]; omega
    · go_wp2
      go_ret
      obtain ⟨xs, hown, hxs⟩ := hx.out
      refine ⟨⟨_, rfl, H.out.1, fun i hi => ⟨_, _, rfl, ?_⟩⟩, hbl.out⟩
      rw [Nat.zero_add]
      exact (hown.cellAt i (by omega)).trans (hxs i (by omega))

theorem clone_nil (w : World) : Calls Try.prog 10 #[.slice none 0 0] w fun e w' => e = .returned (.slice none 0 0) ∧ w' = w := by
  have hnil := fun (w : World) => Lib.run_eql_slice_nil (P := Try.prog) w 23 9 none 0 0 0 0 Try.underlying23
  go_enter Try.func10, Try.ntmps10
  go_wp2
  go_ret
  exact ⟨rfl, rfl⟩

theorem clone_any (a : Option Addr) (n c : Nat) (ss : List ByteArray) (w : World) (h : StrRow w a n ss) (hn : n ≤ 1048576) (ha : a = none → n = 0 ∧ c = 0) :
    Calls Try.prog 10 #[.slice a n c] w fun e w' => (∃ a' c', e = .returned (.slice a' n c') ∧ StrRow w' a' n ss ∧ (a' = none → n = 0 ∧ c' = 0)) ∧ Below w.heap.size w w' := by
  cases a with
  | none =>
    obtain ⟨rfl, rfl⟩ := ha rfl
    refine (clone_nil w).mono ?_
    rintro e w' ⟨rfl, rfl⟩
    exact ⟨⟨_, _, rfl, h, fun _ => ⟨rfl, rfl⟩⟩, Below.refl _ _⟩
  | some ad =>
    refine (clone_some ad n c ss w h hn).mono ?_
    rintro e w' ⟨⟨g, rfl, hr⟩, hb⟩
    exact ⟨⟨_, _, rfl, hr, fun h => by cases h⟩, hb⟩

/-- What zzBytes answers: true only where every length is small. -/
def BytesPost (nz : ByteArray) (n : Nat) (ss : List ByteArray) (e : Ending) : Prop :=
  ∃ b : Bool, e = .returned (.bool b) ∧ (b = true → nz.size ≤ 1048576 ∧ n ≤ 1048576 ∧ ∀ i, i < n → (strAt ss i).size ≤ 1048576)

theorem BytesPost.mk {nz : ByteArray} {n : Nat} {ss : List ByteArray} {e : Ending} {b : Bool} (h : e = .returned (.bool b)) (k : b = true → nz.size ≤ 1048576 ∧ n ≤ 1048576 ∧ ∀ i, i < n → (strAt ss i).size ≤ 1048576) : BytesPost nz n ss e := ⟨b, h, k⟩

set_option maxHeartbeats 1600000 in
theorem bytes_any (nz : ByteArray) (a : Option Addr) (n c : Nat) (ss : List ByteArray) (w : World) (h : StrRow w a n ss) (hz : nz.size ≤ maxLen) (hn : n ≤ maxLen) :
    Calls Try.prog 9 #[.string nz, .slice a n c] w fun e w' => BytesPost nz n ss e ∧ w' = w := by
  unfold maxLen at hz hn
  by_cases c1 : 1048576 < nz.size
  · clear h
    go_enter Try.func9, Try.ntmps9
    go_wp2
    go_ret
    exact ⟨BytesPost.mk rfl (fun h => by cases h), rfl⟩
  by_cases c2 : 1048576 < n
  · clear h
    go_enter Try.func9, Try.ntmps9
    go_wp2
    go_ret
    exact ⟨BytesPost.mk rfl (fun h => by cases h), rfl⟩
  by_cases c3 : 1048576 < nz.size + n
  · clear h
    go_enter Try.func9, Try.ntmps9
    go_wp2
    go_ret
    exact ⟨BytesPost.mk rfl (fun h => by cases h), rfl⟩
  have H := hid h
  clear h
  go_enter Try.func9, Try.ntmps9
  go_wp2
  go_loop [5, 6] (fun z i => ∃ (k : Nat) (T : Int), k ≤ n ∧ 0 ≤ T ∧ T ≤ 1048576 ∧ i = .int .i64 k ∧ z = .int .i64 T ∧ Hid (∀ j, j < k → (strAt ss j).size ≤ 1048576)) (fun _ i => n - (intOf i).toNat)
  case atStart => exact ⟨0, _, Nat.zero_le _, by omega, by omega, rfl, rfl, hid (fun j hj => absurd hj (Nat.not_lt_zero _))⟩
  case round =>
    obtain ⟨k, T, hk, hT0, hT1, rfl, rfl, hs⟩ := hrel
    by_cases hlt : k < n
    · obtain ⟨b, off, rfl, hc⟩ := H.out.2 k hlt
      by_cases c4 : 1048576 < (strAt ss k).size
      · go_wp2
        go_ret
        exact ⟨BytesPost.mk rfl (fun h => by cases h), rfl⟩
      by_cases c5 : 1048576 < T + (strAt ss k).size
      · go_wp2
        go_ret
        exact ⟨BytesPost.mk rfl (fun h => by cases h), rfl⟩
      go_wp2
      go_round
      case rel => exact ⟨k + 1, _, by omega, by omega, by omega, by go_num, rfl, hid (fun j hj => by
          by_cases hjk : j = k
          · subst hjk; omega
          · exact hs.out j (by omega))⟩
      case measure => simp [intOf]; omega
    · go_wp2
      go_ret
      exact ⟨BytesPost.mk rfl (fun _ => ⟨by omega, by omega, fun i hi => hs.out i (by omega)⟩), rfl⟩
end Go.Proofs.Qxb6613366a.Fi
