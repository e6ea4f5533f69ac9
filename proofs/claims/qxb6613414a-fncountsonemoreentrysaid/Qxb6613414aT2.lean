import Derived.Test.Qxb6613414aT0
namespace Go.Proofs.Qxb6613414a
open Go.RowKit

set_option maxHeartbeats 40000000 in
set_option maxRecDepth 1000000 in
theorem tround3 (g r : Nat) (W : World) (A : Option Addr) (n c : Nat) (hd : W.cell? ⟨g, 4, none⟩ = some (.slice A n c)) (ho : W.cell? ⟨g + 2, 4, none⟩ = some (.slice (some ⟨r, 0, none⟩) n n)) (w0 : World) (hg : w0.heap.size = g) (hb0 : Below g w0 W) (hrow : RowK w0 [0, 0] A n) (hn : n ≤ 1048576) (hr : g + 2 < r)
    (Q0 : Exit → Act → World → Prop) (hx : ∀ a' w', AT g a' → GB W w' r 81 (n * 2) → Q0 (.exit 4) a' w')
    (a : Act) (wr : World) (hA : AT g a) (hG : GB W wr r 81 (n * 2)) (k : Nat) (hk : k ≤ n) (hi : slotOf a 6 = .int .i64 k) :
    Code.wp Try.prog (sel Try.f6.body 2) (Exit.then (fun a' w' => IT g r 81 (n * 2) n 6 W a' w' ∧ MU n 6 a' w' < n - k) Q0) a wr := by
  obtain ⟨hs, hdf, h1, h2, h3⟩ := hA
  have HX := hid hx
  have HG := hid hG
  have hd' := hG.1.cell hd (by simp; omega)
  have ho' := hG.1.cell ho (by simp; omega)
  have hlt := hG.2.lt
  rw [act_lit 354 a hs hdf]
  generalize slotOf a = S at *
  rw [lit354 S, h1, h2, h3, hi]
  clear h1 h2 h3 hi hs hdf hx hd ho
  conv => arg 2; whnf
  rcases Nat.lt_or_ge k n with hkn | hge
  · obtain ⟨b, off, s0, s1, rfl, q0, q1⟩ := RowK.o00 hrow k hkn
    have hbg := (carry hg hb0 hG hr q0).2
    have q0' := (carry hg hb0 hG hr q0).1
    obtain ⟨x0, y0⟩ := hG.2.cell (k * 2) (by omega)
    have z0 := hG.2.frozen (k * 2)
    have q1' := (carry hg hb0 hG hr q1).1
    obtain ⟨x1, y1⟩ := hG.2.cell (k * 2 + 1) (by omega)
    have z1 := hG.2.frozen (k * 2 + 1)
    clear q0 q1 hrow
    have i0 : (0 : Int) ≤ (k : Int) := by omega
    have i1 : (k : Int) < (n : Int) := by omega
    have e1 : ¬ r = g := by omega
    have e2 : ¬ r = g + 2 := by omega
    have e3 : ¬ r = b := by omega
    clear hG
    go_wp2
    go_region_held3 (fun w' => w'.cell? ⟨g, 4, none⟩ = some (.slice (some ⟨b, off, none⟩) n c) ∧ w'.cell? ⟨g + 2, 4, none⟩ = some (.slice (some ⟨r, 0, none⟩) n n) ∧ w'.cell? ⟨b, off + k * 2, none⟩ = some (.string s0) ∧ w'.cell? ⟨b, off + k * 2 + 1, none⟩ = some (.string s1)) (simp [*, World.cell?_setCell_far]) (fail)
    go_wp2
    exact IT.step hkn rfl rfl rfl rfl rfl rfl HG.out (by repeat (first | with_reducible apply GB.drew | with_reducible apply GB.setCell | with_reducible apply GB.alloc | exact GB.refl HG.out.2))
  · have hge' : ¬ k < n := by omega
    clear hG hrow
    go_wp2
    exact HX.out _ _ ⟨rfl, rfl, rfl, rfl, rfl⟩ HG.out

set_option maxHeartbeats 40000000 in
set_option maxRecDepth 1000000 in
theorem tround4 (g r : Nat) (W : World) (A : Option Addr) (n c : Nat) (hd : W.cell? ⟨g, 5, none⟩ = some (.slice A n c)) (ho : W.cell? ⟨g + 2, 5, none⟩ = some (.slice (some ⟨r, 0, none⟩) n n)) (w0 : World) (hg : w0.heap.size = g) (hb0 : Below g w0 W) (hrow : RowK w0 [0, 0] A n) (hn : n ≤ 1048576) (hr : g + 2 < r)
    (Q0 : Exit → Act → World → Prop) (hx : ∀ a' w', AT g a' → GB W w' r 89 (n * 2) → Q0 (.exit 6) a' w')
    (a : Act) (wr : World) (hA : AT g a) (hG : GB W wr r 89 (n * 2)) (k : Nat) (hk : k ≤ n) (hi : slotOf a 7 = .int .i64 k) :
    Code.wp Try.prog (sel Try.f6.body 3) (Exit.then (fun a' w' => IT g r 89 (n * 2) n 7 W a' w' ∧ MU n 7 a' w' < n - k) Q0) a wr := by
  obtain ⟨hs, hdf, h1, h2, h3⟩ := hA
  have HX := hid hx
  have HG := hid hG
  have hd' := hG.1.cell hd (by simp; omega)
  have ho' := hG.1.cell ho (by simp; omega)
  have hlt := hG.2.lt
  rw [act_lit 354 a hs hdf]
  generalize slotOf a = S at *
  rw [lit354 S, h1, h2, h3, hi]
  clear h1 h2 h3 hi hs hdf hx hd ho
  conv => arg 2; whnf
  rcases Nat.lt_or_ge k n with hkn | hge
  · obtain ⟨b, off, s0, s1, rfl, q0, q1⟩ := RowK.o00 hrow k hkn
    have hbg := (carry hg hb0 hG hr q0).2
    have q0' := (carry hg hb0 hG hr q0).1
    obtain ⟨x0, y0⟩ := hG.2.cell (k * 2) (by omega)
    have z0 := hG.2.frozen (k * 2)
    have q1' := (carry hg hb0 hG hr q1).1
    obtain ⟨x1, y1⟩ := hG.2.cell (k * 2 + 1) (by omega)
    have z1 := hG.2.frozen (k * 2 + 1)
    clear q0 q1 hrow
    have i0 : (0 : Int) ≤ (k : Int) := by omega
    have i1 : (k : Int) < (n : Int) := by omega
    have e1 : ¬ r = g := by omega
    have e2 : ¬ r = g + 2 := by omega
    have e3 : ¬ r = b := by omega
    clear hG
    go_wp2
    go_region_held3 (fun w' => w'.cell? ⟨g, 5, none⟩ = some (.slice (some ⟨b, off, none⟩) n c) ∧ w'.cell? ⟨g + 2, 5, none⟩ = some (.slice (some ⟨r, 0, none⟩) n n) ∧ w'.cell? ⟨b, off + k * 2, none⟩ = some (.string s0) ∧ w'.cell? ⟨b, off + k * 2 + 1, none⟩ = some (.string s1)) (simp [*, World.cell?_setCell_far]) (fail)
    go_wp2
    exact IT.step hkn rfl rfl rfl rfl rfl rfl HG.out (by repeat (first | with_reducible apply GB.drew | with_reducible apply GB.setCell | with_reducible apply GB.alloc | exact GB.refl HG.out.2))
  · have hge' : ¬ k < n := by omega
    clear hG hrow
    go_wp2
    exact HX.out _ _ ⟨rfl, rfl, rfl, rfl, rfl⟩ HG.out

set_option maxHeartbeats 40000000 in
set_option maxRecDepth 1000000 in
theorem tround5 (g r : Nat) (W : World) (A : Option Addr) (n c : Nat) (hd : W.cell? ⟨g, 6, none⟩ = some (.slice A n c)) (ho : W.cell? ⟨g + 2, 6, none⟩ = some (.slice (some ⟨r, 0, none⟩) n n)) (w0 : World) (hg : w0.heap.size = g) (hb0 : Below g w0 W) (hrow : RowK w0 [0, 0] A n) (hn : n ≤ 1048576) (hr : g + 2 < r)
    (Q0 : Exit → Act → World → Prop) (hx : ∀ a' w', AT g a' → GB W w' r 91 (n * 2) → Q0 (.exit 8) a' w')
    (a : Act) (wr : World) (hA : AT g a) (hG : GB W wr r 91 (n * 2)) (k : Nat) (hk : k ≤ n) (hi : slotOf a 8 = .int .i64 k) :
    Code.wp Try.prog (sel Try.f6.body 4) (Exit.then (fun a' w' => IT g r 91 (n * 2) n 8 W a' w' ∧ MU n 8 a' w' < n - k) Q0) a wr := by
  obtain ⟨hs, hdf, h1, h2, h3⟩ := hA
  have HX := hid hx
  have HG := hid hG
  have hd' := hG.1.cell hd (by simp; omega)
  have ho' := hG.1.cell ho (by simp; omega)
  have hlt := hG.2.lt
  rw [act_lit 354 a hs hdf]
  generalize slotOf a = S at *
  rw [lit354 S, h1, h2, h3, hi]
  clear h1 h2 h3 hi hs hdf hx hd ho
  conv => arg 2; whnf
  rcases Nat.lt_or_ge k n with hkn | hge
  · obtain ⟨b, off, s0, s1, rfl, q0, q1⟩ := RowK.o00 hrow k hkn
    have hbg := (carry hg hb0 hG hr q0).2
    have q0' := (carry hg hb0 hG hr q0).1
    obtain ⟨x0, y0⟩ := hG.2.cell (k * 2) (by omega)
    have z0 := hG.2.frozen (k * 2)
    have q1' := (carry hg hb0 hG hr q1).1
    obtain ⟨x1, y1⟩ := hG.2.cell (k * 2 + 1) (by omega)
    have z1 := hG.2.frozen (k * 2 + 1)
    clear q0 q1 hrow
    have i0 : (0 : Int) ≤ (k : Int) := by omega
    have i1 : (k : Int) < (n : Int) := by omega
    have e1 : ¬ r = g := by omega
    have e2 : ¬ r = g + 2 := by omega
    have e3 : ¬ r = b := by omega
    clear hG
    go_wp2
    go_region_held3 (fun w' => w'.cell? ⟨g, 6, none⟩ = some (.slice (some ⟨b, off, none⟩) n c) ∧ w'.cell? ⟨g + 2, 6, none⟩ = some (.slice (some ⟨r, 0, none⟩) n n) ∧ w'.cell? ⟨b, off + k * 2, none⟩ = some (.string s0) ∧ w'.cell? ⟨b, off + k * 2 + 1, none⟩ = some (.string s1)) (simp [*, World.cell?_setCell_far]) (fail)
    go_wp2
    exact IT.step hkn rfl rfl rfl rfl rfl rfl HG.out (by repeat (first | with_reducible apply GB.drew | with_reducible apply GB.setCell | with_reducible apply GB.alloc | exact GB.refl HG.out.2))
  · have hge' : ¬ k < n := by omega
    clear hG hrow
    go_wp2
    exact HX.out _ _ ⟨rfl, rfl, rfl, rfl, rfl⟩ HG.out

set_option maxHeartbeats 40000000 in
set_option maxRecDepth 1000000 in
theorem tround6 (g r : Nat) (W : World) (A : Option Addr) (n c : Nat) (hd : W.cell? ⟨g, 7, none⟩ = some (.slice A n c)) (ho : W.cell? ⟨g + 2, 7, none⟩ = some (.slice (some ⟨r, 0, none⟩) n n)) (w0 : World) (hg : w0.heap.size = g) (hb0 : Below g w0 W) (hrow : RowK w0 [0, 0] A n) (hn : n ≤ 1048576) (hr : g + 2 < r)
    (Q0 : Exit → Act → World → Prop) (hx : ∀ a' w', AT g a' → GB W w' r 93 (n * 2) → Q0 (.exit 10) a' w')
    (a : Act) (wr : World) (hA : AT g a) (hG : GB W wr r 93 (n * 2)) (k : Nat) (hk : k ≤ n) (hi : slotOf a 9 = .int .i64 k) :
    Code.wp Try.prog (sel Try.f6.body 5) (Exit.then (fun a' w' => IT g r 93 (n * 2) n 9 W a' w' ∧ MU n 9 a' w' < n - k) Q0) a wr := by
  obtain ⟨hs, hdf, h1, h2, h3⟩ := hA
  have HX := hid hx
  have HG := hid hG
  have hd' := hG.1.cell hd (by simp; omega)
  have ho' := hG.1.cell ho (by simp; omega)
  have hlt := hG.2.lt
  rw [act_lit 354 a hs hdf]
  generalize slotOf a = S at *
  rw [lit354 S, h1, h2, h3, hi]
  clear h1 h2 h3 hi hs hdf hx hd ho
  conv => arg 2; whnf
  rcases Nat.lt_or_ge k n with hkn | hge
  · obtain ⟨b, off, s0, s1, rfl, q0, q1⟩ := RowK.o00 hrow k hkn
    have hbg := (carry hg hb0 hG hr q0).2
    have q0' := (carry hg hb0 hG hr q0).1
    obtain ⟨x0, y0⟩ := hG.2.cell (k * 2) (by omega)
    have z0 := hG.2.frozen (k * 2)
    have q1' := (carry hg hb0 hG hr q1).1
    obtain ⟨x1, y1⟩ := hG.2.cell (k * 2 + 1) (by omega)
    have z1 := hG.2.frozen (k * 2 + 1)
    clear q0 q1 hrow
    have i0 : (0 : Int) ≤ (k : Int) := by omega
    have i1 : (k : Int) < (n : Int) := by omega
    have e1 : ¬ r = g := by omega
    have e2 : ¬ r = g + 2 := by omega
    have e3 : ¬ r = b := by omega
    clear hG
    go_wp2
    go_region_held3 (fun w' => w'.cell? ⟨g, 7, none⟩ = some (.slice (some ⟨b, off, none⟩) n c) ∧ w'.cell? ⟨g + 2, 7, none⟩ = some (.slice (some ⟨r, 0, none⟩) n n) ∧ w'.cell? ⟨b, off + k * 2, none⟩ = some (.string s0) ∧ w'.cell? ⟨b, off + k * 2 + 1, none⟩ = some (.string s1)) (simp [*, World.cell?_setCell_far]) (fail)
    go_wp2
    exact IT.step hkn rfl rfl rfl rfl rfl rfl HG.out (by repeat (first | with_reducible apply GB.drew | with_reducible apply GB.setCell | with_reducible apply GB.alloc | exact GB.refl HG.out.2))
  · have hge' : ¬ k < n := by omega
    clear hG hrow
    go_wp2
    exact HX.out _ _ ⟨rfl, rfl, rfl, rfl, rfl⟩ HG.out

set_option maxHeartbeats 40000000 in
set_option maxRecDepth 1000000 in
theorem tround7 (g r : Nat) (W : World) (A : Option Addr) (n c : Nat) (hd : W.cell? ⟨g, 8, none⟩ = some (.slice A n c)) (ho : W.cell? ⟨g + 2, 8, none⟩ = some (.slice (some ⟨r, 0, none⟩) n n)) (w0 : World) (hg : w0.heap.size = g) (hb0 : Below g w0 W) (hrow : RowK w0 [0, 0, 0] A n) (hn : n ≤ 1048576) (hr : g + 2 < r)
    (Q0 : Exit → Act → World → Prop) (hx : ∀ a' w', AT g a' → GB W w' r 95 (n * 3) → Q0 (.exit 12) a' w')
    (a : Act) (wr : World) (hA : AT g a) (hG : GB W wr r 95 (n * 3)) (k : Nat) (hk : k ≤ n) (hi : slotOf a 10 = .int .i64 k) :
    Code.wp Try.prog (sel Try.f6.body 6) (Exit.then (fun a' w' => IT g r 95 (n * 3) n 10 W a' w' ∧ MU n 10 a' w' < n - k) Q0) a wr := by
  obtain ⟨hs, hdf, h1, h2, h3⟩ := hA
  have HX := hid hx
  have HG := hid hG
  have hd' := hG.1.cell hd (by simp; omega)
  have ho' := hG.1.cell ho (by simp; omega)
  have hlt := hG.2.lt
  rw [act_lit 354 a hs hdf]
  generalize slotOf a = S at *
  rw [lit354 S, h1, h2, h3, hi]
  clear h1 h2 h3 hi hs hdf hx hd ho
  conv => arg 2; whnf
  rcases Nat.lt_or_ge k n with hkn | hge
  · obtain ⟨b, off, s0, s1, s2, rfl, q0, q1, q2⟩ := RowK.o000 hrow k hkn
    have hbg := (carry hg hb0 hG hr q0).2
    have q0' := (carry hg hb0 hG hr q0).1
    obtain ⟨x0, y0⟩ := hG.2.cell (k * 3) (by omega)
    have z0 := hG.2.frozen (k * 3)
    have q1' := (carry hg hb0 hG hr q1).1
    obtain ⟨x1, y1⟩ := hG.2.cell (k * 3 + 1) (by omega)
    have z1 := hG.2.frozen (k * 3 + 1)
    have q2' := (carry hg hb0 hG hr q2).1
    obtain ⟨x2, y2⟩ := hG.2.cell (k * 3 + 2) (by omega)
    have z2 := hG.2.frozen (k * 3 + 2)
    clear q0 q1 q2 hrow
    have i0 : (0 : Int) ≤ (k : Int) := by omega
    have i1 : (k : Int) < (n : Int) := by omega
    have e1 : ¬ r = g := by omega
    have e2 : ¬ r = g + 2 := by omega
    have e3 : ¬ r = b := by omega
    clear hG
    go_wp2
    go_region_held3 (fun w' => w'.cell? ⟨g, 8, none⟩ = some (.slice (some ⟨b, off, none⟩) n c) ∧ w'.cell? ⟨g + 2, 8, none⟩ = some (.slice (some ⟨r, 0, none⟩) n n) ∧ w'.cell? ⟨b, off + k * 3, none⟩ = some (.string s0) ∧ w'.cell? ⟨b, off + k * 3 + 1, none⟩ = some (.string s1) ∧ w'.cell? ⟨b, off + k * 3 + 2, none⟩ = some (.string s2)) (simp [*, World.cell?_setCell_far]) (fail)
    go_wp2
    exact IT.step hkn rfl rfl rfl rfl rfl rfl HG.out (by repeat (first | with_reducible apply GB.drew | with_reducible apply GB.setCell | with_reducible apply GB.alloc | exact GB.refl HG.out.2))
  · have hge' : ¬ k < n := by omega
    clear hG hrow
    go_wp2
    exact HX.out _ _ ⟨rfl, rfl, rfl, rfl, rfl⟩ HG.out

set_option maxHeartbeats 40000000 in
set_option maxRecDepth 1000000 in
theorem tround8 (g r : Nat) (W : World) (A : Option Addr) (n c : Nat) (hd : W.cell? ⟨g, 9, none⟩ = some (.slice A n c)) (ho : W.cell? ⟨g + 2, 9, none⟩ = some (.slice (some ⟨r, 0, none⟩) n n)) (w0 : World) (hg : w0.heap.size = g) (hb0 : Below g w0 W) (hrow : RowK w0 [0, 0, 0] A n) (hn : n ≤ 1048576) (hr : g + 2 < r)
    (Q0 : Exit → Act → World → Prop) (hx : ∀ a' w', AT g a' → GB W w' r 97 (n * 3) → Q0 (.exit 14) a' w')
    (a : Act) (wr : World) (hA : AT g a) (hG : GB W wr r 97 (n * 3)) (k : Nat) (hk : k ≤ n) (hi : slotOf a 11 = .int .i64 k) :
    Code.wp Try.prog (sel Try.f6.body 7) (Exit.then (fun a' w' => IT g r 97 (n * 3) n 11 W a' w' ∧ MU n 11 a' w' < n - k) Q0) a wr := by
  obtain ⟨hs, hdf, h1, h2, h3⟩ := hA
  have HX := hid hx
  have HG := hid hG
  have hd' := hG.1.cell hd (by simp; omega)
  have ho' := hG.1.cell ho (by simp; omega)
  have hlt := hG.2.lt
  rw [act_lit 354 a hs hdf]
  generalize slotOf a = S at *
  rw [lit354 S, h1, h2, h3, hi]
  clear h1 h2 h3 hi hs hdf hx hd ho
  conv => arg 2; whnf
  rcases Nat.lt_or_ge k n with hkn | hge
  · obtain ⟨b, off, s0, s1, s2, rfl, q0, q1, q2⟩ := RowK.o000 hrow k hkn
    have hbg := (carry hg hb0 hG hr q0).2
    have q0' := (carry hg hb0 hG hr q0).1
    obtain ⟨x0, y0⟩ := hG.2.cell (k * 3) (by omega)
    have z0 := hG.2.frozen (k * 3)
    have q1' := (carry hg hb0 hG hr q1).1
    obtain ⟨x1, y1⟩ := hG.2.cell (k * 3 + 1) (by omega)
    have z1 := hG.2.frozen (k * 3 + 1)
    have q2' := (carry hg hb0 hG hr q2).1
    obtain ⟨x2, y2⟩ := hG.2.cell (k * 3 + 2) (by omega)
    have z2 := hG.2.frozen (k * 3 + 2)
    clear q0 q1 q2 hrow
    have i0 : (0 : Int) ≤ (k : Int) := by omega
    have i1 : (k : Int) < (n : Int) := by omega
    have e1 : ¬ r = g := by omega
    have e2 : ¬ r = g + 2 := by omega
    have e3 : ¬ r = b := by omega
    clear hG
    go_wp2
    go_region_held3 (fun w' => w'.cell? ⟨g, 9, none⟩ = some (.slice (some ⟨b, off, none⟩) n c) ∧ w'.cell? ⟨g + 2, 9, none⟩ = some (.slice (some ⟨r, 0, none⟩) n n) ∧ w'.cell? ⟨b, off + k * 3, none⟩ = some (.string s0) ∧ w'.cell? ⟨b, off + k * 3 + 1, none⟩ = some (.string s1) ∧ w'.cell? ⟨b, off + k * 3 + 2, none⟩ = some (.string s2)) (simp [*, World.cell?_setCell_far]) (fail)
    go_wp2
    exact IT.step hkn rfl rfl rfl rfl rfl rfl HG.out (by repeat (first | with_reducible apply GB.drew | with_reducible apply GB.setCell | with_reducible apply GB.alloc | exact GB.refl HG.out.2))
  · have hge' : ¬ k < n := by omega
    clear hG hrow
    go_wp2
    exact HX.out _ _ ⟨rfl, rfl, rfl, rfl, rfl⟩ HG.out

set_option maxHeartbeats 40000000 in
set_option maxRecDepth 1000000 in
theorem tround9 (g r : Nat) (W : World) (A : Option Addr) (n c : Nat) (hd : W.cell? ⟨g, 10, none⟩ = some (.slice A n c)) (ho : W.cell? ⟨g + 2, 10, none⟩ = some (.slice (some ⟨r, 0, none⟩) n n)) (w0 : World) (hg : w0.heap.size = g) (hb0 : Below g w0 W) (hrow : RowK w0 [0, 0, 0] A n) (hn : n ≤ 1048576) (hr : g + 2 < r)
    (Q0 : Exit → Act → World → Prop) (hx : ∀ a' w', AT g a' → GB W w' r 99 (n * 3) → Q0 (.exit 16) a' w')
    (a : Act) (wr : World) (hA : AT g a) (hG : GB W wr r 99 (n * 3)) (k : Nat) (hk : k ≤ n) (hi : slotOf a 12 = .int .i64 k) :
    Code.wp Try.prog (sel Try.f6.body 8) (Exit.then (fun a' w' => IT g r 99 (n * 3) n 12 W a' w' ∧ MU n 12 a' w' < n - k) Q0) a wr := by
  obtain ⟨hs, hdf, h1, h2, h3⟩ := hA
  have HX := hid hx
  have HG := hid hG
  have hd' := hG.1.cell hd (by simp; omega)
  have ho' := hG.1.cell ho (by simp; omega)
  have hlt := hG.2.lt
  rw [act_lit 354 a hs hdf]
  generalize slotOf a = S at *
  rw [lit354 S, h1, h2, h3, hi]
  clear h1 h2 h3 hi hs hdf hx hd ho
  conv => arg 2; whnf
  rcases Nat.lt_or_ge k n with hkn | hge
  · obtain ⟨b, off, s0, s1, s2, rfl, q0, q1, q2⟩ := RowK.o000 hrow k hkn
    have hbg := (carry hg hb0 hG hr q0).2
    have q0' := (carry hg hb0 hG hr q0).1
    obtain ⟨x0, y0⟩ := hG.2.cell (k * 3) (by omega)
    have z0 := hG.2.frozen (k * 3)
    have q1' := (carry hg hb0 hG hr q1).1
    obtain ⟨x1, y1⟩ := hG.2.cell (k * 3 + 1) (by omega)
    have z1 := hG.2.frozen (k * 3 + 1)
    have q2' := (carry hg hb0 hG hr q2).1
    obtain ⟨x2, y2⟩ := hG.2.cell (k * 3 + 2) (by omega)
    have z2 := hG.2.frozen (k * 3 + 2)
    clear q0 q1 q2 hrow
    have i0 : (0 : Int) ≤ (k : Int) := by omega
    have i1 : (k : Int) < (n : Int) := by omega
    have e1 : ¬ r = g := by omega
    have e2 : ¬ r = g + 2 := by omega
    have e3 : ¬ r = b := by omega
    clear hG
    go_wp2
    go_region_held3 (fun w' => w'.cell? ⟨g, 10, none⟩ = some (.slice (some ⟨b, off, none⟩) n c) ∧ w'.cell? ⟨g + 2, 10, none⟩ = some (.slice (some ⟨r, 0, none⟩) n n) ∧ w'.cell? ⟨b, off + k * 3, none⟩ = some (.string s0) ∧ w'.cell? ⟨b, off + k * 3 + 1, none⟩ = some (.string s1) ∧ w'.cell? ⟨b, off + k * 3 + 2, none⟩ = some (.string s2)) (simp [*, World.cell?_setCell_far]) (fail)
    go_wp2
    exact IT.step hkn rfl rfl rfl rfl rfl rfl HG.out (by repeat (first | with_reducible apply GB.drew | with_reducible apply GB.setCell | with_reducible apply GB.alloc | exact GB.refl HG.out.2))
  · have hge' : ¬ k < n := by omega
    clear hG hrow
    go_wp2
    exact HX.out _ _ ⟨rfl, rfl, rfl, rfl, rfl⟩ HG.out
end Go.Proofs.Qxb6613414a
