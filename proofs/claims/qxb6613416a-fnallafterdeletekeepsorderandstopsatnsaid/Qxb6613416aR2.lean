import Derived.Test.Qxb6613416aR1
namespace Go.Proofs.Qxb6613416a
open Go.RowKit Go.Maps

theorem as9_9 (v : Value) (w : World) : (Instr.typeAssert (.iface 9 v) 20 9 true).run Try.prog w = .ok (.tuple #[v, .bool true]) w := by kernel_rfl
theorem as66_66 (v : Value) (w : World) : (Instr.typeAssert (.iface 66 v) 20 66 true).run Try.prog w = .ok (.tuple #[v, .bool true]) w := by kernel_rfl
theorem as68_68 (v : Value) (w : World) : (Instr.typeAssert (.iface 68 v) 20 68 true).run Try.prog w = .ok (.tuple #[v, .bool true]) w := by kernel_rfl
theorem as66_9 (v : Value) (w : World) : (Instr.typeAssert (.iface 66 v) 20 9 true).run Try.prog w = .ok (.tuple #[.string ByteArray.empty, .bool false]) w := by kernel_rfl
theorem as66_68 (v : Value) (w : World) : (Instr.typeAssert (.iface 66 v) 20 68 true).run Try.prog w = .ok (.tuple #[.pointer none, .bool false]) w := by kernel_rfl
theorem as9_68 (v : Value) (w : World) : (Instr.typeAssert (.iface 9 v) 20 68 true).run Try.prog w = .ok (.tuple #[.pointer none, .bool false]) w := by kernel_rfl

set_option maxHeartbeats 800000 in
theorem given_any (e : Ent) (v : Value) (w : World) (h : Rep w e v) : Calls Try.prog 26 #[v] w fun r w' => r = .returned (givenV e) ∧ w' = w := by
  unfold givenV
  rcases h with ⟨rfl, hn⟩ | ⟨rfl, hn⟩ | ⟨b, rfl, h1, h2⟩
  · rw [hn]
    have ht := as9_68
    go_enter Try.func26, Try.ntmps26
    go_wp2
    go_ret
    exact ⟨rfl, rfl⟩
  · rw [hn]
    have ht := as66_68
    go_enter Try.func26, Try.ntmps26
    go_wp2
    go_ret
    exact ⟨rfl, rfl⟩
  · have ht := as68_68
    cases hn : e.num with
    | false =>
      rw [hn] at h2
      clear hn
      go_enter Try.func26, Try.ntmps26
      go_wp2
      go_ret
      exact ⟨rfl, rfl⟩
    | true =>
      rw [hn] at h2
      clear hn
      go_enter Try.func26, Try.ntmps26
      go_wp2
      go_ret
      exact ⟨rfl, rfl⟩

set_option maxHeartbeats 800000 in
theorem zzGiven_any (e : Ent) (w : World) : Calls Try.prog 17 #[givenV e] w fun r w' => r = .returned (.tuple #[.string e.text, .int .i64 (if e.num then 1 else 0)]) ∧ w' = w := by
  unfold givenV
  have ht1 := as9_9
  have ht2 := as66_9
  have ht3 := as66_66
  cases hn : e.num with
  | false =>
    clear hn
    go_enter Try.func17, Try.ntmps17
    go_wp2
    go_ret2
    exact ⟨rfl, rfl⟩
  | true =>
    clear hn
    go_enter Try.func17, Try.ntmps17
    go_wp2
    go_ret2
    exact ⟨rfl, rfl⟩
end Go.Proofs.Qxb6613416a
