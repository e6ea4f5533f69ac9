import Derived.Test.Qxb6613366aRows
import Derived.WalkKit
import Derived.WalkSpells
import Derived.RegionTactic
import Derived.Deep.QuietTactic
import Derived.BigQuiet
import Derived.RowKit3
import Derived.Laws.IdiomStrings
import Derived.WalkSmall
namespace Go.Proofs.Qxb6613366a
open Go.RowKit

def tru : List UInt8 := [116, 114, 117, 101]
def fls : List UInt8 := [102, 97, 108, 115, 101]

set_option maxHeartbeats 800000 in
theorem boolLiteral_any (s : ByteArray) (x y : Bool) (hx : (s.toList == [116, 114, 117, 101]) = x) (hy : (s.toList == [102, 97, 108, 115, 101]) = y) (w : World) :
    Calls Try.prog 14 #[.string s] w fun e w' => e = .returned (.tuple #[.agg #[.string s, .bool true, .slice none 0 0], .bool (x || y)]) ∧ w' = w.alloc (.cells #[.string s, .bool true, .slice none 0 0] 43) := by
  cases x <;> cases y
  all_goals
    go_enter Try.func14, Try.ntmps14
    go_wp2
    exact bodyPost_ret (v := .tuple #[.agg #[.string s, .bool true, .slice none 0 0], .bool _]) (by simp [results, Try.results14, go_sem]) rfl ⟨rfl, rfl⟩

theorem hid {p : Prop} (h : p) : Hid p := h

set_option maxHeartbeats 800000 in
theorem ZZ_any (s : ByteArray) (x y : Bool) (hx : (s.toList == [116, 114, 117, 101]) = x) (hy : (s.toList == [102, 97, 108, 115, 101]) = y) (w : World) :
    Calls Try.prog 6 #[.string s] w fun e w' => e = .returned (.tuple #[.string s, .bool true, .slice none 0 0, .bool (x || y)]) ∧ Below w.heap.size w w' := by
  have H := hid (boolLiteral_any s x y hx hy)
  clear hx hy
  generalize (x || y) = z at *
  go_enter Try.func6, Try.ntmps6
  go_wp2_with fail
  refine (H.out _).mono ?_
  rintro e w' ⟨rfl, rfl⟩
  go_wp2
  go_quiet (fail)
  go_wp2
  exact bodyPost_ret (v := .tuple #[.string s, .bool true, .slice none 0 0, .bool z]) (by simp [results, Try.results6, go_sem]) rfl ⟨rfl, below_drewN (((Below.refl _ _).alloc (Nat.le_refl _) _).alloc (by simp) _) _⟩

set_option maxHeartbeats 800000 in
theorem goBool_any (s : ByteArray) (x y : Bool) (hx : (s.toList == [116, 114, 117, 101]) = x) (hy : (s.toList == [102, 97, 108, 115, 101]) = y) (w : World) :
    Calls Try.prog 7 #[.string s] w fun e w' => e = .returned (.bool (x || y)) ∧ w' = w := by
  cases x <;> cases y
  all_goals
    go_enter Try.func7, Try.ntmps7
    go_wp2
    go_ret
    exact ⟨rfl, rfl⟩

set_option maxHeartbeats 800000 in
set_option maxRecDepth 1000000 in
theorem up_true_walk (cap : Nat) (C : Array Value) (w : World)
    (hconv : (convert 9 41 (.string ⟨#[116, 114, 117, 101]⟩)).run Try.prog w = .ok (.slice (some ⟨w.heap.size, 0, none⟩) 4 cap) (w.drew.alloc (.cells C 5 (C.size, C.size + 1))))
    (hc0 : (w.alloc (.cells C 5 (C.size, C.size + 1))).cell? ⟨w.heap.size, 0, none⟩ = some (.int .u8 116)) (hz0 : (w.alloc (.cells C 5 (C.size, C.size + 1))).frozen? ⟨w.heap.size, 0, none⟩ = false)
    (hback : (convert 41 9 (.slice (some ⟨w.heap.size, 0, none⟩) 4 cap)).run Try.prog ((w.alloc (.cells C 5 (C.size, C.size + 1))).setCell ⟨w.heap.size, 0, none⟩ (.int .u8 84)).drew = .ok (.string ⟨#[84, 114, 117, 101]⟩) ((w.alloc (.cells C 5 (C.size, C.size + 1))).setCell ⟨w.heap.size, 0, none⟩ (.int .u8 84)).drew) :
    Calls Try.prog 8 #[.string ⟨#[116, 114, 117, 101]⟩] w fun e w' => e = .returned (.string ⟨#[84, 114, 117, 101]⟩) ∧ Below w.heap.size w w' := by
  go_enter Try.func8, Try.ntmps8
  go_wp2
  go_ret
  exact ⟨rfl, (((Below.refl _ _).alloc (Nat.le_refl _) _).setCell (Nat.le_refl _) _).drew⟩

set_option maxHeartbeats 800000 in
set_option maxRecDepth 1000000 in
theorem up_false_walk (cap : Nat) (C : Array Value) (w : World)
    (hconv : (convert 9 41 (.string ⟨#[102, 97, 108, 115, 101]⟩)).run Try.prog w = .ok (.slice (some ⟨w.heap.size, 0, none⟩) 5 cap) (w.drew.alloc (.cells C 5 (C.size, C.size + 1))))
    (hc0 : (w.alloc (.cells C 5 (C.size, C.size + 1))).cell? ⟨w.heap.size, 0, none⟩ = some (.int .u8 102)) (hz0 : (w.alloc (.cells C 5 (C.size, C.size + 1))).frozen? ⟨w.heap.size, 0, none⟩ = false)
    (hback : (convert 41 9 (.slice (some ⟨w.heap.size, 0, none⟩) 5 cap)).run Try.prog ((w.alloc (.cells C 5 (C.size, C.size + 1))).setCell ⟨w.heap.size, 0, none⟩ (.int .u8 70)).drew = .ok (.string ⟨#[70, 97, 108, 115, 101]⟩) ((w.alloc (.cells C 5 (C.size, C.size + 1))).setCell ⟨w.heap.size, 0, none⟩ (.int .u8 70)).drew) :
    Calls Try.prog 8 #[.string ⟨#[102, 97, 108, 115, 101]⟩] w fun e w' => e = .returned (.string ⟨#[70, 97, 108, 115, 101]⟩) ∧ Below w.heap.size w w' := by
  go_enter Try.func8, Try.ntmps8
  go_wp2
  go_ret
  exact ⟨rfl, (((Below.refl _ _).alloc (Nat.le_refl _) _).setCell (Nat.le_refl _) _).drew⟩

theorem up_true (w : World) : Calls Try.prog 8 #[.string ⟨#[116, 114, 117, 101]⟩] w fun e w' => e = .returned (.string ⟨#[84, 114, 117, 101]⟩) ∧ Below w.heap.size w w' := by
  have hcap : (4 : Nat) = ByteArray.size ⟨#[116, 114, 117, 101]⟩ := rfl
  have hconv := run_bytes_of_string (P := Try.prog) w 9 41 5 ⟨#[116, 114, 117, 101]⟩ Try.underlying9 Try.underlying41 Try.underlying5
  have hrow := fun j hj => bytesRow_at ⟨#[116, 114, 117, 101]⟩ (grownCap w (ByteArray.size ⟨#[116, 114, 117, 101]⟩) 0 5) j hj
  have hsz : 4 ≤ (bytesRow ⟨#[116, 114, 117, 101]⟩ (grownCap w (ByteArray.size ⟨#[116, 114, 117, 101]⟩) 0 5)).size := by unfold bytesRow; simp
  generalize bytesRow ⟨#[116, 114, 117, 101]⟩ (grownCap w (ByteArray.size ⟨#[116, 114, 117, 101]⟩) 0 5) = C at *
  rw [← hcap] at *
  generalize grownCap w 4 0 5 = cap at *
  refine up_true_walk cap C w hconv ?_ ?_ ?_
  · rw [World.cell?_alloc_mark]; exact hrow 0 (by decide)
  · rw [World.frozen?_alloc_mark, decide_eq_false (by omega)]; rfl
  · refine run_convert_bytes_back (P := Try.prog) _ 41 9 5 ⟨w.heap.size, 0, none⟩ cap [84, 114, 117, 101] Try.underlying41 Try.underlying5 Try.underlying9 ?_
    intro j hj
    show (((w.alloc (.cells C 5 (C.size, C.size + 1))).setCell ⟨w.heap.size, 0, none⟩ _).cell? (Addr.add ⟨w.heap.size, 0, none⟩ j)) = _
    match j, hj with
    | 0, _ => exact World.cell?_setCell_same _ _ _ (by rw [World.cell?_alloc_mark]; exact hrow 0 (by decide))
    | 1, _ => exact (World.cell?_setCell_other _ _ _ _ (by simp [Addr.add])).trans ((World.cell?_alloc_mark _ _ _ _ _).trans (hrow 1 (by decide)))
    | 2, _ => exact (World.cell?_setCell_other _ _ _ _ (by simp [Addr.add])).trans ((World.cell?_alloc_mark _ _ _ _ _).trans (hrow 2 (by decide)))
    | 3, _ => exact (World.cell?_setCell_other _ _ _ _ (by simp [Addr.add])).trans ((World.cell?_alloc_mark _ _ _ _ _).trans (hrow 3 (by decide)))
    | j + 4, hj => exact absurd hj (by simp)

theorem up_false (w : World) : Calls Try.prog 8 #[.string ⟨#[102, 97, 108, 115, 101]⟩] w fun e w' => e = .returned (.string ⟨#[70, 97, 108, 115, 101]⟩) ∧ Below w.heap.size w w' := by
  have hcap : (5 : Nat) = ByteArray.size ⟨#[102, 97, 108, 115, 101]⟩ := rfl
  have hconv := run_bytes_of_string (P := Try.prog) w 9 41 5 ⟨#[102, 97, 108, 115, 101]⟩ Try.underlying9 Try.underlying41 Try.underlying5
  have hrow := fun j hj => bytesRow_at ⟨#[102, 97, 108, 115, 101]⟩ (grownCap w (ByteArray.size ⟨#[102, 97, 108, 115, 101]⟩) 0 5) j hj
  have hsz : 5 ≤ (bytesRow ⟨#[102, 97, 108, 115, 101]⟩ (grownCap w (ByteArray.size ⟨#[102, 97, 108, 115, 101]⟩) 0 5)).size := by unfold bytesRow; simp
  generalize bytesRow ⟨#[102, 97, 108, 115, 101]⟩ (grownCap w (ByteArray.size ⟨#[102, 97, 108, 115, 101]⟩) 0 5) = C at *
  rw [← hcap] at *
  generalize grownCap w 5 0 5 = cap at *
  refine up_false_walk cap C w hconv ?_ ?_ ?_
  · rw [World.cell?_alloc_mark]; exact hrow 0 (by decide)
  · rw [World.frozen?_alloc_mark, decide_eq_false (by omega)]; rfl
  · refine run_convert_bytes_back (P := Try.prog) _ 41 9 5 ⟨w.heap.size, 0, none⟩ cap [70, 97, 108, 115, 101] Try.underlying41 Try.underlying5 Try.underlying9 ?_
    intro j hj
    show (((w.alloc (.cells C 5 (C.size, C.size + 1))).setCell ⟨w.heap.size, 0, none⟩ _).cell? (Addr.add ⟨w.heap.size, 0, none⟩ j)) = _
    match j, hj with
    | 0, _ => exact World.cell?_setCell_same _ _ _ (by rw [World.cell?_alloc_mark]; exact hrow 0 (by decide))
    | 1, _ => exact (World.cell?_setCell_other _ _ _ _ (by simp [Addr.add])).trans ((World.cell?_alloc_mark _ _ _ _ _).trans (hrow 1 (by decide)))
    | 2, _ => exact (World.cell?_setCell_other _ _ _ _ (by simp [Addr.add])).trans ((World.cell?_alloc_mark _ _ _ _ _).trans (hrow 2 (by decide)))
    | 3, _ => exact (World.cell?_setCell_other _ _ _ _ (by simp [Addr.add])).trans ((World.cell?_alloc_mark _ _ _ _ _).trans (hrow 3 (by decide)))
    | 4, _ => exact (World.cell?_setCell_other _ _ _ _ (by simp [Addr.add])).trans ((World.cell?_alloc_mark _ _ _ _ _).trans (hrow 4 (by decide)))
    | j + 5, hj => exact absurd hj (by simp)

/-! ### PLAIN: byte lists -/
theorem eq_mk (s : ByteArray) (l : List UInt8) (h : (s.toList == l) = true) : s = ⟨l.toArray⟩ := by
  rw [beq_iff_eq, ByteArray.toList_eq] at h
  cases s; simp at h; simp [← h]

theorem toList_append (s t : ByteArray) : (s ++ t).toList = s.toList ++ t.toList := by
  rw [ByteArray.toList_eq, ByteArray.toList_eq, ByteArray.toList_eq]; simp

def isBool (l : List UInt8) : Bool := l == [116, 114, 117, 101] || l == [102, 97, 108, 115, 101]

theorem after_no (l e : List UInt8) (h : isBool l = true) (he : e ≠ []) : (l ++ e == [116, 114, 117, 101]) = false ∧ (l ++ e == [102, 97, 108, 115, 101]) = false := by
  simp only [isBool, Bool.or_eq_true, beq_iff_eq] at h
  cases e with
  | nil => exact absurd rfl he
  | cons a e => rcases h with rfl | rfl <;> simp

theorem before_no (l e : List UInt8) (h : isBool l = true) (he : e ≠ []) : (e ++ l == [116, 114, 117, 101]) = false ∧ (e ++ l == [102, 97, 108, 115, 101]) = false := by
  simp only [isBool, Bool.or_eq_true, beq_iff_eq] at h
  match e, he with
  | [a], _ => rcases h with rfl | rfl <;> simp
  | a :: b :: e, _ =>
    rcases h with rfl | rfl
    all_goals
      refine ⟨beq_eq_false_iff_ne.2 fun h => ?_, beq_eq_false_iff_ne.2 fun h => ?_⟩
      all_goals
        have hl := congrArg List.length h
        simp at hl

theorem upper_any (s : ByteArray) (h : isBool s.toList = true) (w : World) :
    Calls Try.prog 8 #[.string s] w fun e w' => (∃ u : ByteArray, e = .returned (.string u) ∧ (u.toList == [116, 114, 117, 101]) = false ∧ (u.toList == [102, 97, 108, 115, 101]) = false) ∧ Below w.heap.size w w' := by
  simp only [isBool, Bool.or_eq_true] at h
  rcases h with h | h
  · rw [eq_mk s _ h]
    refine (up_true w).mono ?_
    rintro e w' ⟨rfl, hb⟩
    exact ⟨⟨_, rfl, by simp, by simp⟩, hb⟩
  · rw [eq_mk s _ h]
    refine (up_false w).mono ?_
    rintro e w' ⟨rfl, hb⟩
    exact ⟨⟨_, rfl, by simp, by simp⟩, hb⟩

theorem ZZ_is (s : ByteArray) (w : World) :
    Calls Try.prog 6 #[.string s] w fun e w' => e = .returned (.tuple #[.string s, .bool true, .slice none 0 0, .bool (isBool s.toList)]) ∧ Below w.heap.size w w' :=
  ZZ_any s _ _ rfl rfl w

theorem goBool_is (s : ByteArray) (w : World) : Calls Try.prog 7 #[.string s] w fun e w' => e = .returned (.bool (isBool s.toList)) ∧ w' = w :=
  goBool_any s _ _ rfl rfl w

theorem bytes_ok (s t : ByteArray) (w : World) (h : s.size + t.size ≤ 1048576) :
    Calls Try.prog 5 #[.string s, .string t] w fun e w' => e = .returned (.bool true) ∧ w' = w := by
  have h1 : s.size ≤ 1048576 := by omega
  have h2 : t.size ≤ 1048576 := by omega
  go_enter Try.func5, Try.ntmps5
  go_wp2
  go_ret
  exact ⟨rfl, rfl⟩

set_option maxHeartbeats 1600000 in
theorem walk_main (s t : ByteArray) (c : s.size + t.size ≤ 1048576) (w : World) :
    Calls Try.prog 3 #[.string s, .string t] w fun e w' => e = .returned (.bool true) ∧ Below w.heap.size w w' := by
  have h1 : s.size ≤ 1048576 := by omega
  have h2 : t.size ≤ 1048576 := by omega
  have Z := hid (ZZ_is s)
  have G := hid (goBool_is s)
  cases hb : isBool s.toList with
  | false =>
    have HB := hid hb
    rw [hb] at Z G
    clear hb
    go_enter Try.func3, Try.ntmps3
    go_wp2_with fail
    refine (bytes_ok s t _ c).mono ?_
    rintro e w' ⟨rfl, rfl⟩
    go_wp2_with fail
    refine (Z.out _).mono ?_
    rintro e w1 ⟨rfl, hb1⟩
    go_wp2_with fail
    refine (G.out _).mono ?_
    rintro e w2 ⟨rfl, rfl⟩
    go_wp2_with fail
    go_ret
    exact ⟨rfl, hb1⟩
  | true =>
    have U := hid (upper_any s hb)
    have A := hid (after_no s.toList t.toList hb)
    have B := hid (before_no s.toList t.toList hb)
    rw [hb] at Z G
    clear hb
    go_enter Try.func3, Try.ntmps3
    go_wp2_with fail
    refine (bytes_ok s t _ c).mono ?_
    rintro e w' ⟨rfl, rfl⟩
    go_wp2_with fail
    refine (Z.out _).mono ?_
    rintro e w1 ⟨rfl, hb1⟩
    go_wp2_with fail
    refine (G.out _).mono ?_
    rintro e w2 ⟨rfl, rfl⟩
    go_wp2_with fail
    refine (U.out _).mono ?_
    rintro e w3 ⟨⟨u, rfl, u1, u2⟩, hb3⟩
    have ZU := hid (ZZ_any u _ _ u1 u2)
    clear u1 u2
    go_wp2_with fail
    refine (ZU.out _).mono ?_
    rintro e w4 ⟨rfl, hb4⟩
    by_cases ht : t.toList.isEmpty = true
    · go_wp2_with fail
      go_ret
      exact ⟨rfl, (hb1.trans (hb3.mono hb1.size)).trans (hb4.mono (Nat.le_trans hb1.size hb3.size))⟩
    · have ht' : t.toList.isEmpty = false := by simpa using ht
      have hne : t.toList ≠ [] := by intro h0; simp [h0] at ht'
      obtain ⟨a1, a2⟩ := A.out hne
      obtain ⟨b1, b2⟩ := B.out hne
      rw [← toList_append] at a1 a2 b1 b2
      have ZA := hid (ZZ_any (s ++ t) _ _ a1 a2)
      have ZB := hid (ZZ_any (t ++ s) _ _ b1 b2)
      clear a1 a2 b1 b2 ht hne
      go_wp2_with fail
      refine (ZA.out _).mono ?_
      rintro e w5 ⟨rfl, hb5⟩
      go_wp2_with fail
      refine (ZB.out _).mono ?_
      rintro e w6 ⟨rfl, hb6⟩
      go_wp2_with fail
      go_ret
      have s3 := hb3.size
      have s4 := hb4.size
      have s5 := hb5.size
      have s1 := hb1.size
      exact ⟨rfl, (((hb1.trans (hb3.mono (by omega))).trans (hb4.mono (by omega))).trans (hb5.mono (by omega))).trans (hb6.mono (by omega))⟩

set_option maxHeartbeats 800000 in
theorem walk (s t : ByteArray) (hs : s.size ≤ maxLen) (ht : t.size ≤ maxLen) (w : World) :
    Calls Try.prog 3 #[.string s, .string t] w fun e w' => e = .returned (.bool true) ∧ Below w.heap.size w w' := by
  unfold maxLen at hs ht
  by_cases c1 : 1048576 < s.size
  · go_enter Try.func3, Try.ntmps3
    go_wp2
    go_ret
    exact ⟨rfl, Below.refl _ _⟩
  by_cases c2 : 1048576 < t.size
  · go_enter Try.func3, Try.ntmps3
    go_wp2
    go_ret
    exact ⟨rfl, Below.refl _ _⟩
  by_cases c3 : 1048576 < s.size + t.size
  · go_enter Try.func3, Try.ntmps3
    go_wp2
    go_ret
    exact ⟨rfl, Below.refl _ _⟩
  exact walk_main s t (by omega) w
end Go.Proofs.Qxb6613366a
