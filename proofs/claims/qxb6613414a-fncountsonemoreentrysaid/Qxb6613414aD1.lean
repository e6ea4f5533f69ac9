import Derived.Test.Qxb6613414aZ2
namespace Go.Proofs.Qxb6613414a
open Go.RowKit

/-- A number of at most one more than the limit. -/
def IntPost (e : Ending) : Prop := ∃ r : Int, e = .returned (.int .i64 r) ∧ 0 ≤ r ∧ r ≤ 1048577
theorem IntPost.mk {e : Ending} {r : Int} (h : e = .returned (.int .i64 r)) (h0 : 0 ≤ r) (h1 : r ≤ 1048577) : IntPost e := ⟨r, h, h0, h1⟩

set_option maxHeartbeats 800000 in
theorem addStr_any (T : Int) (s : ByteArray) (w : World) (h0 : 0 ≤ T) (h1 : T ≤ 1048577) : Calls Try.prog 11 #[.int .i64 T, .string s] w fun e w' => IntPost e ∧ w' = w := by
  by_cases c1 : 1048576 < T
  · go_enter Try.func11, Try.ntmps11
    go_wp2
    go_ret
    exact ⟨IntPost.mk rfl (by omega) (by omega), rfl⟩
  by_cases c2 : 1048576 - T < s.size
  · go_enter Try.func11, Try.ntmps11
    go_wp2
    go_ret
    exact ⟨IntPost.mk rfl (by omega) (by omega), rfl⟩
  go_enter Try.func11, Try.ntmps11
  go_wp2
  go_ret
  exact ⟨IntPost.mk rfl (by omega) (by omega), rfl⟩

set_option maxHeartbeats 800000 in
theorem addPtr_any (T : Int) (v : Value) (w : World) (h0 : 0 ≤ T) (h1 : T ≤ 1048577) (hv : PtrS w v) : Calls Try.prog 13 #[.int .i64 T, v] w fun e w' => IntPost e ∧ w' = w := by
  rcases hv with rfl | ⟨b, o, s, rfl, hc⟩
  · go_enter Try.func13, Try.ntmps13
    go_wp2
    go_ret
    exact ⟨IntPost.mk rfl (by omega) (by omega), rfl⟩
  · go_enter Try.func13, Try.ntmps13
    go_wp2_with fail
    refine (addStr_any T s w h0 h1).mono ?_
    rintro e w' ⟨⟨r, rfl, r0, r1⟩, rfl⟩
    go_wp2
    go_ret
    exact ⟨IntPost.mk rfl (by omega) (by omega), rfl⟩

set_option maxHeartbeats 800000 in
theorem addWords24 (T : Int) (n : Nat) (w : World) (h0 : 0 ≤ T) (h1 : T ≤ 1048577) : Calls Try.prog 12 #[.int .i64 T, .int .i64 n, .int .i64 24] w fun e w' => IntPost e ∧ w' = w := by
  by_cases c1 : 1048576 < T
  · go_enter Try.func12, Try.ntmps12
    go_wp2
    go_ret
    exact ⟨IntPost.mk rfl (by omega) (by omega), rfl⟩
  by_cases c2 : (1048576 - T) / 24 < n
  · go_enter Try.func12, Try.ntmps12
    go_wp2
    go_ret
    exact ⟨IntPost.mk rfl (by omega) (by omega), rfl⟩
  go_enter Try.func12, Try.ntmps12
  go_wp2
  go_ret
  exact ⟨IntPost.mk rfl (by omega) (by omega), rfl⟩

set_option maxHeartbeats 800000 in
theorem addWords48 (T : Int) (n : Nat) (w : World) (h0 : 0 ≤ T) (h1 : T ≤ 1048577) : Calls Try.prog 12 #[.int .i64 T, .int .i64 n, .int .i64 48] w fun e w' => IntPost e ∧ w' = w := by
  by_cases c1 : 1048576 < T
  · go_enter Try.func12, Try.ntmps12
    go_wp2
    go_ret
    exact ⟨IntPost.mk rfl (by omega) (by omega), rfl⟩
  by_cases c2 : (1048576 - T) / 48 < n
  · go_enter Try.func12, Try.ntmps12
    go_wp2
    go_ret
    exact ⟨IntPost.mk rfl (by omega) (by omega), rfl⟩
  go_enter Try.func12, Try.ntmps12
  go_wp2
  go_ret
  exact ⟨IntPost.mk rfl (by omega) (by omega), rfl⟩

set_option maxHeartbeats 800000 in
theorem addWords32 (T : Int) (n : Nat) (w : World) (h0 : 0 ≤ T) (h1 : T ≤ 1048577) : Calls Try.prog 12 #[.int .i64 T, .int .i64 n, .int .i64 32] w fun e w' => IntPost e ∧ w' = w := by
  by_cases c1 : 1048576 < T
  · go_enter Try.func12, Try.ntmps12
    go_wp2
    go_ret
    exact ⟨IntPost.mk rfl (by omega) (by omega), rfl⟩
  by_cases c2 : (1048576 - T) / 32 < n
  · go_enter Try.func12, Try.ntmps12
    go_wp2
    go_ret
    exact ⟨IntPost.mk rfl (by omega) (by omega), rfl⟩
  go_enter Try.func12, Try.ntmps12
  go_wp2
  go_ret
  exact ⟨IntPost.mk rfl (by omega) (by omega), rfl⟩
end Go.Proofs.Qxb6613414a
