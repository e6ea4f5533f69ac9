import Derived.Test.Qxb6613414aC1
namespace Go.Proofs.Qxb6613414a
open Go.RowKit Go.Maps

theorem cell_on {w w' : World} {a : Addr} {v : Value} (hb : Below w.heap.size w w') (h : w.cell? a = some v) : w'.cell? a = some v :=
  (hb.cell (World.block_lt_of_cell? w a h)).trans h

def relRow (a4 a5 a6 a7 a8 a9 : Option Addr) (n4 n5 n6 n7 n8 n9 : Nat) (f4 f5 f6 f7 f8 f9 : Array Value) : Array Value := #[.string ⟨#[109, 101, 109, 98, 101, 114, 115, 104, 105, 112, 115]⟩, .bool a4.isSome, .int .i64 n4, .func (.func 32) #[] f4, .string ⟨#[103, 114, 111, 117, 112, 95, 114, 111, 108, 101, 115]⟩, .bool a5.isSome, .int .i64 n5, .func (.func 33) #[] f5, .string ⟨#[117, 115, 101, 114, 95, 114, 111, 108, 101, 115]⟩, .bool a6.isSome, .int .i64 n6, .func (.func 34) #[] f6, .string ⟨#[114, 111, 108, 101, 95, 112, 101, 114, 109, 105, 115, 115, 105, 111, 110, 115]⟩, .bool a7.isSome, .int .i64 n7, .func (.func 35) #[] f7, .string ⟨#[103, 114, 111, 117, 112, 95, 112, 101, 114, 109, 105, 115, 115, 105, 111, 110, 115]⟩, .bool a8.isSome, .int .i64 n8, .func (.func 36) #[] f8, .string ⟨#[117, 115, 101, 114, 95, 112, 101, 114, 109, 105, 115, 115, 105, 111, 110, 115]⟩, .bool a9.isSome, .int .i64 n9, .func (.func 37) #[] f9]

set_option maxHeartbeats 4000000 in
set_option maxRecDepth 100000 in
theorem relations_any (d : Nat) (a4 a5 a6 a7 a8 a9 : Option Addr) (n4 c4 n5 c5 n6 c6 n7 c7 n8 c8 n9 c9 : Nat) (w : World) (h4 : w.cell? ⟨d, 5, none⟩ = some (.slice a4 n4 c4)) (h5 : w.cell? ⟨d, 6, none⟩ = some (.slice a5 n5 c5)) (h6 : w.cell? ⟨d, 7, none⟩ = some (.slice a6 n6 c6)) (h7 : w.cell? ⟨d, 8, none⟩ = some (.slice a7 n7 c7)) (h8 : w.cell? ⟨d, 9, none⟩ = some (.slice a8 n8 c8)) (h9 : w.cell? ⟨d, 10, none⟩ = some (.slice a9 n9 c9)) :
    Calls Try.prog 19 #[.pointer (some ⟨d, 0, none⟩)] w fun e w' => (∃ g f4 f5 f6 f7 f8 f9, e = .returned (.slice (some ⟨g, 0, none⟩) 6 6) ∧ w'.heap[g]? = some (.cells (relRow a4 a5 a6 a7 a8 a9 n4 n5 n6 n7 n8 n9 f4 f5 f6 f7 f8 f9) 108 (0, 0)) ∧ w.heap.size ≤ g) ∧ Below w.heap.size w w' := by
  go_enter Try.func19, Try.ntmps19
  go_wp2
  go_region_held3 (fun w' => w'.cell? ⟨d, 5, none⟩ = some (.slice a4 n4 c4) ∧ w'.cell? ⟨d, 6, none⟩ = some (.slice a5 n5 c5) ∧ w'.cell? ⟨d, 7, none⟩ = some (.slice a6 n6 c6) ∧ w'.cell? ⟨d, 8, none⟩ = some (.slice a7 n7 c7) ∧ w'.cell? ⟨d, 9, none⟩ = some (.slice a8 n8 c8) ∧ w'.cell? ⟨d, 10, none⟩ = some (.slice a9 n9 c9)) ((repeat' apply And.intro) <;> first | assumption | exact cell_on (by assumption) (by simp [*]) | simp [*, World.cell?_alloc_some])
    (first
      | (go_at_call 20; refine (rel3 _ _ _ _).mono ?_; rintro e w4 ⟨⟨f4, rfl⟩, b4⟩)
      | (go_at_call 22; refine (rel4 _ _ _ _).mono ?_; rintro e w5 ⟨⟨f5, rfl⟩, b5⟩)
      | (go_at_call 24; refine (rel5 _ _ _ _).mono ?_; rintro e w6 ⟨⟨f6, rfl⟩, b6⟩)
      | (go_at_call 26; refine (rel6 _ _ _ _).mono ?_; rintro e w7 ⟨⟨f7, rfl⟩, b7⟩)
      | (go_at_call 28; refine (rel7 _ _ _ _).mono ?_; rintro e w8 ⟨⟨f8, rfl⟩, b8⟩)
      | (go_at_call 30; refine (rel8 _ _ _ _).mono ?_; rintro e w9 ⟨⟨f9, rfl⟩, b9⟩))
  go_wp2
  go_ret
  have s4 := b4.size
  have s5 := b5.size
  have s6 := b6.size
  have s7 := b7.size
  have s8 := b8.size
  have s9 := b9.size
  have s0 : w.drew.heap.size = w.heap.size := rfl
  refine ⟨⟨_, f4, f5, f6, f7, f8, f9, rfl, heap_alloc_new w9 _, by omega⟩, ?_⟩
  exact (((((((Below.refl w.heap.size w).drew.trans b4).trans (b5.mono (by omega))).trans (b6.mono (by omega))).trans (b7.mono (by omega))).trans (b8.mono (by omega))).trans (b9.mono (by omega))).alloc (by omega) _
end Go.Proofs.Qxb6613414a
