import Derived.Test.Qxb6613349aRows
import Derived.WalkKit
import Derived.WalkSpells
import Derived.RegionTactic
import Derived.Deep.QuietTactic
import Derived.BigQuiet
import Derived.RowKit3
import Derived.Lib.EndianBits
namespace Go.Proofs.Qxb6613349a
open Go.RowKit

/-- The i-th byte of a string, 0 beyond its end. -/
def byteAt (s : ByteArray) (i : Nat) : Nat := (s.data.toList.getD i 0).toNat

theorem byteAt_lt (s : ByteArray) (i : Nat) : byteAt s i < 256 := (s.data.toList.getD i 0).toNat_lt

theorem byteAt_get (s : ByteArray) (i : Nat) (h : i < s.size) : s[i].toNat = byteAt s i := by
  have h' : i < s.data.toList.length := by simpa using h
  unfold byteAt
  rw [List.getD_eq_getElem?_getD, List.getElem?_eq_getElem h']; rfl

theorem index_at (s : ByteArray) (i : Nat) (h : i < s.size) (w : World) :
    (Instr.index 9 (.string s) (.int .i64 (i : Int))).run Try.prog w = .ok (.int .u8 (byteAt s i)) w := by
  rw [run_index_string w 9 s .i64 (i : Int) Try.underlying9, dif_pos ⟨by omega, by omega⟩, ← byteAt_get s i h]
  rfl

def wordOf (b0 b1 b2 b3 : Int) : Int := b0 + b1 * 256 + b2 * 65536 + b3 * 16777216

set_option maxHeartbeats 800000 in
theorem word4_any (s : ByteArray) (w : World) (h4 : 4 ≤ s.size) :
    Calls Try.prog 17 #[.string s] w fun e w' => e = .returned (.int .u32 (wordOf (byteAt s 0) (byteAt s 1) (byteAt s 2) (byteAt s 3))) ∧ ∃ n, w' = w.drewN n := by
  have k0 : ∀ w, (Instr.index 9 (.string s) (.int .i64 0)).run Try.prog w = .ok (.int .u8 (byteAt s 0)) w := index_at s 0 (by omega)
  have k1 : ∀ w, (Instr.index 9 (.string s) (.int .i64 1)).run Try.prog w = .ok (.int .u8 (byteAt s 1)) w := index_at s 1 (by omega)
  have k2 : ∀ w, (Instr.index 9 (.string s) (.int .i64 2)).run Try.prog w = .ok (.int .u8 (byteAt s 2)) w := index_at s 2 (by omega)
  have k3 : ∀ w, (Instr.index 9 (.string s) (.int .i64 3)).run Try.prog w = .ok (.int .u8 (byteAt s 3)) w := index_at s 3 (by omega)
  have l0 := byteAt_lt s 0
  have l1 := byteAt_lt s 1
  have l2 := byteAt_lt s 2
  have l3 := byteAt_lt s 3
  generalize byteAt s 0 = b0 at *
  generalize byteAt s 1 = b1 at *
  generalize byteAt s 2 = b2 at *
  generalize byteAt s 3 = b3 at *
  go_enter Try.func17, Try.ntmps17
  go_wp2
  go_quiet (fail)
  go_wp2
  go_ret
  refine ⟨?_, _, rfl⟩
  simp (disch := omega) only [u32_or8, u32_or16, u32_or24]
  rfl

set_option maxHeartbeats 800000 in
theorem ZZword4_any (s : ByteArray) (w : World) (h4 : 4 ≤ s.size) :
    Calls Try.prog 8 #[.string s] w fun e w' => e = .returned (.int .u32 (wordOf (byteAt s 0) (byteAt s 1) (byteAt s 2) (byteAt s 3))) ∧ ∃ n, w' = w.drewN n := by
  go_enter Try.func8, Try.ntmps8
  go_wp2_with (go_at_call 17; refine (word4_any s _ h4).mono ?_; rintro e w' ⟨rfl, n, rfl⟩)
  go_ret
  exact ⟨rfl, _, rfl⟩

theorem byteAt_append (s t : ByteArray) (i : Nat) (h : i < s.size) : byteAt (s ++ t) i = byteAt s i := by
  have h' : i < s.data.toList.length := by simpa using h
  unfold byteAt
  have e : (s ++ t).data.toList = s.data.toList ++ t.data.toList := by simp
  rw [e, List.getD_eq_getElem?_getD, List.getD_eq_getElem?_getD, List.getElem?_append_left h']

theorem word_bytes (b0 b1 b2 b3 : Nat) (h0 : b0 < 256) (h1 : b1 < 256) (h2 : b2 < 256) (h3 : b3 < 256) :
    IntKind.u8.wrap (wordOf b0 b1 b2 b3) = b0 ∧ IntKind.u8.wrap (wordOf b0 b1 b2 b3 / 256) = b1 ∧
      IntKind.u8.wrap (wordOf b0 b1 b2 b3 / 65536) = b2 ∧ IntKind.u8.wrap (wordOf b0 b1 b2 b3 / 16777216) = b3 := by
  simp only [IntKind.wrap_u8]
  unfold wordOf
  omega

theorem ZZword4_app (s t : ByteArray) (w : World) (h4 : 4 ≤ s.size) :
    Calls Try.prog 8 #[.string (s ++ t)] w fun e w' => e = .returned (.int .u32 (wordOf (byteAt s 0) (byteAt s 1) (byteAt s 2) (byteAt s 3))) ∧ ∃ n, w' = w.drewN n := by
  have h := ZZword4_any (s ++ t) w (by simp; omega)
  rwa [byteAt_append s t 0 (by omega), byteAt_append s t 1 (by omega), byteAt_append s t 2 (by omega), byteAt_append s t 3 (by omega)] at h

theorem Grown.drewN {w w' : World} (h : Grown w w') (n : Nat) : Grown w (w'.drewN n) := h

theorem hid {p : Prop} (h : p) : Hid p := h

theorem bytes1_ok (s t : ByteArray) (w : World) (h : s.size + t.size ≤ 1048576) :
    Calls Try.prog 7 #[.string s, .string t] w fun e w' => e = .returned (.bool true) ∧ w' = w := by
  have h1 : s.size ≤ 1048576 := by omega
  have h2 : t.size ≤ 1048576 := by omega
  go_enter Try.func7, Try.ntmps7
  go_wp2
  go_ret
  exact ⟨rfl, rfl⟩

set_option maxHeartbeats 800000 in
theorem walk1 (s t : ByteArray) (hs : s.size ≤ maxLen) (ht : t.size ≤ maxLen) (w : World) :
    Calls Try.prog 3 #[.string s, .string t] w fun e w' => e = .returned (.bool true) ∧ Grown w w' := by
  unfold maxLen at hs ht
  by_cases c1 : 1048576 < s.size
  · go_enter Try.func3, Try.ntmps3
    go_wp2
    go_ret
    exact ⟨rfl, by repeat (first | exact Grown.refl _ | apply Grown.drew | apply Grown.alloc)⟩
  by_cases c2 : 1048576 < t.size
  · go_enter Try.func3, Try.ntmps3
    go_wp2
    go_ret
    exact ⟨rfl, by repeat (first | exact Grown.refl _ | apply Grown.drew | apply Grown.alloc)⟩
  by_cases c3 : 1048576 < s.size + t.size
  · go_enter Try.func3, Try.ntmps3
    go_wp2
    go_ret
    exact ⟨rfl, by repeat (first | exact Grown.refl _ | apply Grown.drew | apply Grown.alloc)⟩
  by_cases c4 : s.size < 4
  · go_enter Try.func3, Try.ntmps3
    go_wp2
    go_ret
    exact ⟨rfl, by repeat (first | exact Grown.refl _ | apply Grown.drew | apply Grown.alloc)⟩
  go_enter Try.func3, Try.ntmps3
  go_wp2_with fail
  refine (bytes1_ok s t _ (by omega)).mono ?_
  rintro e w' ⟨rfl, rfl⟩
  go_wp2_with fail
  refine (ZZword4_any s _ (by omega)).mono ?_
  rintro e w' ⟨rfl, n, rfl⟩
  go_wp2_with fail
  refine (ZZword4_app s t _ (by omega)).mono ?_
  rintro e w' ⟨rfl, n, rfl⟩
  obtain ⟨e0, e1, e2, e3⟩ := word_bytes _ _ _ _ (byteAt_lt s 0) (byteAt_lt s 1) (byteAt_lt s 2) (byteAt_lt s 3)
  have k0 : ∀ w, (Instr.index 9 (.string s) (.int .i64 0)).run Try.prog w = .ok (.int .u8 (byteAt s 0)) w := index_at s 0 (by omega)
  have k1 : ∀ w, (Instr.index 9 (.string s) (.int .i64 1)).run Try.prog w = .ok (.int .u8 (byteAt s 1)) w := index_at s 1 (by omega)
  have k2 : ∀ w, (Instr.index 9 (.string s) (.int .i64 2)).run Try.prog w = .ok (.int .u8 (byteAt s 2)) w := index_at s 2 (by omega)
  have k3 : ∀ w, (Instr.index 9 (.string s) (.int .i64 3)).run Try.prog w = .ok (.int .u8 (byteAt s 3)) w := index_at s 3 (by omega)
  generalize wordOf (byteAt s 0) (byteAt s 1) (byteAt s 2) (byteAt s 3) = W at *
  generalize byteAt s 0 = b0 at *
  generalize byteAt s 1 = b1 at *
  generalize byteAt s 2 = b2 at *
  generalize byteAt s 3 = b3 at *
  go_wp2
  go_ret
  exact ⟨rfl, Grown.drewN (Grown.refl _) _⟩

theorem bytes2_ok (s t : ByteArray) (w : World) (h : s.size + t.size ≤ 1048576) :
    Calls Try.prog 9 #[.string s, .string t] w fun e w' => e = .returned (.bool true) ∧ w' = w := by
  have h1 : s.size ≤ 1048576 := by omega
  have h2 : t.size ≤ 1048576 := by omega
  go_enter Try.func9, Try.ntmps9
  go_wp2
  go_ret
  exact ⟨rfl, rfl⟩

/-- THE PLAIN LAW: the word tells the four bytes. -/
theorem word_eq (a0 a1 a2 a3 b0 b1 b2 b3 : Nat) (h0 : a0 < 256) (h1 : a1 < 256) (h2 : a2 < 256) (_h3 : a3 < 256)
    (k0 : b0 < 256) (k1 : b1 < 256) (k2 : b2 < 256) (_k3 : b3 < 256) :
    (wordOf a0 a1 a2 a3 == wordOf b0 b1 b2 b3) = ((((a0 : Int) == b0 && (a1 : Int) == b1) && (a2 : Int) == b2) && (a3 : Int) == b3) := by
  rw [Bool.eq_iff_iff]
  simp only [beq_iff_eq, Bool.and_eq_true]
  unfold wordOf
  omega

set_option maxHeartbeats 1600000 in
theorem walk2_main (s t : ByteArray) (c3 : s.size + t.size ≤ 1048576) (c4 : 4 ≤ s.size) (c5 : 4 ≤ t.size) (x0 x1 x2 x3 : Bool)
    (f0 : ((byteAt s 0 : Int) == (byteAt t 0 : Int)) = x0) (f1 : ((byteAt s 1 : Int) == (byteAt t 1 : Int)) = x1)
    (f2 : ((byteAt s 2 : Int) == (byteAt t 2 : Int)) = x2) (f3 : ((byteAt s 3 : Int) == (byteAt t 3 : Int)) = x3) (w : World) :
    Calls Try.prog 4 #[.string s, .string t] w fun e w' => e = .returned (.bool true) ∧ Grown w w' := by
  have hw := word_eq _ _ _ _ _ _ _ _ (byteAt_lt s 0) (byteAt_lt s 1) (byteAt_lt s 2) (byteAt_lt s 3) (byteAt_lt t 0) (byteAt_lt t 1) (byteAt_lt t 2) (byteAt_lt t 3)
  rw [f0, f1, f2, f3] at hw
  have k0 : ∀ w, (Instr.index 9 (.string s) (.int .i64 0)).run Try.prog w = .ok (.int .u8 (byteAt s 0)) w := index_at s 0 (by omega)
  have j0 : ∀ w, (Instr.index 9 (.string t) (.int .i64 0)).run Try.prog w = .ok (.int .u8 (byteAt t 0)) w := index_at t 0 (by omega)
  have k1 : ∀ w, (Instr.index 9 (.string s) (.int .i64 1)).run Try.prog w = .ok (.int .u8 (byteAt s 1)) w := index_at s 1 (by omega)
  have j1 : ∀ w, (Instr.index 9 (.string t) (.int .i64 1)).run Try.prog w = .ok (.int .u8 (byteAt t 1)) w := index_at t 1 (by omega)
  have k2 : ∀ w, (Instr.index 9 (.string s) (.int .i64 2)).run Try.prog w = .ok (.int .u8 (byteAt s 2)) w := index_at s 2 (by omega)
  have j2 : ∀ w, (Instr.index 9 (.string t) (.int .i64 2)).run Try.prog w = .ok (.int .u8 (byteAt t 2)) w := index_at t 2 (by omega)
  have k3 : ∀ w, (Instr.index 9 (.string s) (.int .i64 3)).run Try.prog w = .ok (.int .u8 (byteAt s 3)) w := index_at s 3 (by omega)
  have j3 : ∀ w, (Instr.index 9 (.string t) (.int .i64 3)).run Try.prog w = .ok (.int .u8 (byteAt t 3)) w := index_at t 3 (by omega)
  have q1 := fun w => ZZword4_any s w c4
  have q2 := fun w => ZZword4_any t w c5
  generalize wordOf (byteAt s 0) (byteAt s 1) (byteAt s 2) (byteAt s 3) = W at *
  generalize wordOf (byteAt t 0) (byteAt t 1) (byteAt t 2) (byteAt t 3) = V at *
  generalize byteAt s 0 = b0 at *
  generalize byteAt t 0 = d0 at *
  generalize byteAt s 1 = b1 at *
  generalize byteAt t 1 = d1 at *
  generalize byteAt s 2 = b2 at *
  generalize byteAt t 2 = d2 at *
  generalize byteAt s 3 = b3 at *
  generalize byteAt t 3 = d3 at *
  have Q1 := hid q1
  have Q2 := hid q2
  clear q1 q2
  have H1 : s.size ≤ 1048576 := by omega
  have H2 : t.size ≤ 1048576 := by omega
  cases x0 <;> cases x1 <;> cases x2 <;> cases x3
  all_goals
    go_enter Try.func4, Try.ntmps4
    go_wp2_with fail
    refine (bytes2_ok s t _ c3).mono ?_
    rintro e w' ⟨rfl, rfl⟩
    go_wp2_with fail
    go_quiet (fail)
    go_wp2_with fail
    refine (Q1.out _).mono ?_
    rintro e w' ⟨rfl, n, rfl⟩
    go_wp2_with fail
    refine (Q2.out _).mono ?_
    rintro e w' ⟨rfl, m, rfl⟩
    go_wp2
    go_ret
    exact ⟨rfl, Grown.drewN (Grown.refl _) _⟩

set_option maxHeartbeats 800000 in
theorem walk2 (s t : ByteArray) (hs : s.size ≤ maxLen) (ht : t.size ≤ maxLen) (w : World) :
    Calls Try.prog 4 #[.string s, .string t] w fun e w' => e = .returned (.bool true) ∧ Grown w w' := by
  unfold maxLen at hs ht
  by_cases c1 : 1048576 < s.size
  · go_enter Try.func4, Try.ntmps4
    go_wp2
    go_ret
    exact ⟨rfl, by repeat (first | exact Grown.refl _ | apply Grown.drew | apply Grown.alloc)⟩
  by_cases c2 : 1048576 < t.size
  · go_enter Try.func4, Try.ntmps4
    go_wp2
    go_ret
    exact ⟨rfl, by repeat (first | exact Grown.refl _ | apply Grown.drew | apply Grown.alloc)⟩
  by_cases c3 : 1048576 < s.size + t.size
  · go_enter Try.func4, Try.ntmps4
    go_wp2
    go_ret
    exact ⟨rfl, by repeat (first | exact Grown.refl _ | apply Grown.drew | apply Grown.alloc)⟩
  by_cases c4 : s.size < 4
  · go_enter Try.func4, Try.ntmps4
    go_wp2
    go_ret
    exact ⟨rfl, by repeat (first | exact Grown.refl _ | apply Grown.drew | apply Grown.alloc)⟩
  by_cases c5 : t.size < 4
  · go_enter Try.func4, Try.ntmps4
    go_wp2
    go_ret
    exact ⟨rfl, by repeat (first | exact Grown.refl _ | apply Grown.drew | apply Grown.alloc)⟩
  exact walk2_main s t (by omega) (by omega) (by omega) _ _ _ _ rfl rfl rfl rfl w

end Go.Proofs.Qxb6613349a
