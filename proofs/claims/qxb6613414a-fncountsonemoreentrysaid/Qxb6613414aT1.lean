import Derived.Test.Qxb6613414aT0
namespace Go.Proofs.Qxb6613414a
open Go.RowKit

set_option maxHeartbeats 40000000 in
set_option maxRecDepth 1000000 in
theorem tround1 (g r : Nat) (W : World) (A : Option Addr) (n c : Nat) (hd : W.cell? ⟨g, 2, none⟩ = some (.slice A n c)) (ho : W.cell? ⟨g + 2, 2, none⟩ = some (.slice (some ⟨r, 0, none⟩) n n)) (w0 : World) (hg : w0.heap.size = g) (hb0 : Below g w0 W) (hrow : RowK w0 [0, 1] A n) (hn : n ≤ 1048576) (hr : g + 2 < r)
    (Q0 : Exit → Act → World → Prop) (hx : ∀ a' w', AT g a' → GB W w' r 84 (n * 2) → Q0 (.exit 0) a' w')
    (a : Act) (wr : World) (hA : AT g a) (hG : GB W wr r 84 (n * 2)) (k : Nat) (hk : k ≤ n) (hi : slotOf a 4 = .int .i64 k) :
    Code.wp Try.prog (sel Try.f6.body 0) (Exit.then (fun a' w' => IT g r 84 (n * 2) n 4 W a' w' ∧ MU n 4 a' w' < n - k) Q0) a wr := by
  obtain ⟨hs, hdf, h1, h2, h3⟩ := hA
  have HX := hid hx
  have HG := hid hG
  have hd' := hG.1.cell hd (by simp; omega)
  have ho' := hG.1.cell ho (by simp; omega)
  have hlt := hG.2.lt
  rw [act_lit 354 a hs hdf]
  generalize slotOf a = S at *
  rw [lit354 S, h1, h2, h3, hi]
  clear h1 h2 h3 hi hs hdf hx hd ho
  conv => arg 2; whnf
  rcases Nat.lt_or_ge k n with hkn | hge
  · obtain ⟨b, off, s0, v1, rfl, q0, q1, p1⟩ := RowK.o01 hrow k hkn
    have hbg := (carry hg hb0 hG hr q0).2
    have q0' := (carry hg hb0 hG hr q0).1
    obtain ⟨x0, y0⟩ := hG.2.cell (k * 2) (by omega)
    have z0 := hG.2.frozen (k * 2)
    have q1' := (carry hg hb0 hG hr q1).1
    obtain ⟨x1, y1⟩ := hG.2.cell (k * 2 + 1) (by omega)
    have z1 := hG.2.frozen (k * 2 + 1)
    clear q0 q1 hrow
    have i0 : (0 : Int) ≤ (k : Int) := by omega
    have i1 : (k : Int) < (n : Int) := by omega
    have e1 : ¬ r = g := by omega
    have e2 : ¬ r = g + 2 := by omega
    have e3 : ¬ r = b := by omega
    rcases p1 with rfl | ⟨b1, o1, t1, rfl, w1⟩
    · clear hG
      go_wp2
      go_region_held3 (fun w' => w'.cell? ⟨g, 2, none⟩ = some (.slice (some ⟨b, off, none⟩) n c) ∧ w'.cell? ⟨g + 2, 2, none⟩ = some (.slice (some ⟨r, 0, none⟩) n n) ∧ w'.cell? ⟨b, off + k * 2, none⟩ = some (.string s0) ∧ w'.cell? ⟨b, off + k * 2 + 1, none⟩ = some (.pointer none)) ((repeat' apply And.intro) <;> exact World.grownBy.cell (w := wr) (row := some r) (by repeat (first | with_reducible exact gy_refl _ _ | with_reducible apply gy_drew | with_reducible apply gy_setCell | with_reducible apply gy_alloc)) (by assumption) (by simp; omega)) (first | (go_at_call 14; refine (copyStr_nil _).mono ?_; rintro e w' ⟨rfl, rfl⟩))
      go_wp2
      exact IT.step hkn rfl rfl rfl rfl rfl rfl HG.out (by repeat (first | with_reducible apply GB.drew | with_reducible apply GB.setCell | with_reducible apply GB.alloc | exact GB.refl HG.out.2))
    · obtain ⟨w1', b1'⟩ := carry hg hb0 hG hr w1
      have e19 : ¬ r = b1 := by omega
      clear w1 b1'
      clear hG
      go_wp2
      go_region_held3 (fun w' => w'.cell? ⟨g, 2, none⟩ = some (.slice (some ⟨b, off, none⟩) n c) ∧ w'.cell? ⟨g + 2, 2, none⟩ = some (.slice (some ⟨r, 0, none⟩) n n) ∧ w'.cell? ⟨b, off + k * 2, none⟩ = some (.string s0) ∧ w'.cell? ⟨b, off + k * 2 + 1, none⟩ = some (.pointer (some ⟨b1, o1, none⟩)) ∧ w'.cell? ⟨b1, o1, none⟩ = some (.string t1)) ((repeat' apply And.intro) <;> exact World.grownBy.cell (w := wr) (row := some r) (by repeat (first | with_reducible exact gy_refl _ _ | with_reducible apply gy_drew | with_reducible apply gy_setCell | with_reducible apply gy_alloc)) (by assumption) (by simp; omega)) (first | (go_at_call 14; refine (copyStr_some b1 o1 t1 _ ?_).mono ?_; (simp [*]); rintro e w' ⟨rfl, rfl⟩))
      go_wp2
      exact IT.step hkn rfl rfl rfl rfl rfl rfl HG.out (by repeat (first | with_reducible apply GB.drew | with_reducible apply GB.setCell | with_reducible apply GB.alloc | exact GB.refl HG.out.2))
  · have hge' : ¬ k < n := by omega
    clear hG hrow
    go_wp2
    exact HX.out _ _ ⟨rfl, rfl, rfl, rfl, rfl⟩ HG.out

set_option maxHeartbeats 40000000 in
set_option maxRecDepth 1000000 in
theorem tround2 (g r : Nat) (W : World) (A : Option Addr) (n c : Nat) (hd : W.cell? ⟨g, 3, none⟩ = some (.slice A n c)) (ho : W.cell? ⟨g + 2, 3, none⟩ = some (.slice (some ⟨r, 0, none⟩) n n)) (w0 : World) (hg : w0.heap.size = g) (hb0 : Below g w0 W) (hrow : RowK w0 [0, 0, 1, 2] A n) (hn : n ≤ 1048576) (hr : g + 2 < r)
    (Q0 : Exit → Act → World → Prop) (hx : ∀ a' w', AT g a' → GB W w' r 87 (n * 4) → Q0 (.exit 2) a' w')
    (a : Act) (wr : World) (hA : AT g a) (hG : GB W wr r 87 (n * 4)) (k : Nat) (hk : k ≤ n) (hi : slotOf a 5 = .int .i64 k) :
    Code.wp Try.prog (sel Try.f6.body 1) (Exit.then (fun a' w' => IT g r 87 (n * 4) n 5 W a' w' ∧ MU n 5 a' w' < n - k) Q0) a wr := by
  obtain ⟨hs, hdf, h1, h2, h3⟩ := hA
  have HX := hid hx
  have HG := hid hG
  have hd' := hG.1.cell hd (by simp; omega)
  have ho' := hG.1.cell ho (by simp; omega)
  have hlt := hG.2.lt
  rw [act_lit 354 a hs hdf]
  generalize slotOf a = S at *
  rw [lit354 S, h1, h2, h3, hi]
  clear h1 h2 h3 hi hs hdf hx hd ho
  conv => arg 2; whnf
  rcases Nat.lt_or_ge k n with hkn | hge
  · obtain ⟨b, off, s0, s1, v2, v3, rfl, q0, q1, q2, p2, q3, p3⟩ := RowK.o0012 hrow k hkn
    have hbg := (carry hg hb0 hG hr q0).2
    have q0' := (carry hg hb0 hG hr q0).1
    obtain ⟨x0, y0⟩ := hG.2.cell (k * 4) (by omega)
    have z0 := hG.2.frozen (k * 4)
    have q1' := (carry hg hb0 hG hr q1).1
    obtain ⟨x1, y1⟩ := hG.2.cell (k * 4 + 1) (by omega)
    have z1 := hG.2.frozen (k * 4 + 1)
    have q2' := (carry hg hb0 hG hr q2).1
    obtain ⟨x2, y2⟩ := hG.2.cell (k * 4 + 2) (by omega)
    have z2 := hG.2.frozen (k * 4 + 2)
    have q3' := (carry hg hb0 hG hr q3).1
    obtain ⟨x3, y3⟩ := hG.2.cell (k * 4 + 3) (by omega)
    have z3 := hG.2.frozen (k * 4 + 3)
    clear q0 q1 q2 q3 hrow
    have i0 : (0 : Int) ≤ (k : Int) := by omega
    have i1 : (k : Int) < (n : Int) := by omega
    have e1 : ¬ r = g := by omega
    have e2 : ¬ r = g + 2 := by omega
    have e3 : ¬ r = b := by omega
    rcases p2 with rfl | ⟨b2, o2, t2, rfl, w2⟩
    · rcases p3 with rfl | ⟨b3, o3, t3, rfl, w3⟩
      · clear hG
        go_wp2
        go_region_held3 (fun w' => w'.cell? ⟨g, 3, none⟩ = some (.slice (some ⟨b, off, none⟩) n c) ∧ w'.cell? ⟨g + 2, 3, none⟩ = some (.slice (some ⟨r, 0, none⟩) n n) ∧ w'.cell? ⟨b, off + k * 4, none⟩ = some (.string s0) ∧ w'.cell? ⟨b, off + k * 4 + 1, none⟩ = some (.string s1) ∧ w'.cell? ⟨b, off + k * 4 + 2, none⟩ = some (.pointer none) ∧ w'.cell? ⟨b, off + k * 4 + 3, none⟩ = some (.pointer none)) ((repeat' apply And.intro) <;> exact World.grownBy.cell (w := wr) (row := some r) (by repeat (first | with_reducible exact gy_refl _ _ | with_reducible apply gy_drew | with_reducible apply gy_setCell | with_reducible apply gy_alloc)) (by assumption) (by simp; omega)) (first | (go_at_call 14; refine (copyStr_nil _).mono ?_; rintro e w' ⟨rfl, rfl⟩) | (go_at_call 15; refine (copyBool_nil _).mono ?_; rintro e w' ⟨rfl, rfl⟩))
        go_wp2
        exact IT.step hkn rfl rfl rfl rfl rfl rfl HG.out (by repeat (first | with_reducible apply GB.drew | with_reducible apply GB.setCell | with_reducible apply GB.alloc | exact GB.refl HG.out.2))
      · obtain ⟨w3', b3'⟩ := carry hg hb0 hG hr w3
        have e39 : ¬ r = b3 := by omega
        clear w3 b3'
        clear hG
        go_wp2
        go_region_held3 (fun w' => w'.cell? ⟨g, 3, none⟩ = some (.slice (some ⟨b, off, none⟩) n c) ∧ w'.cell? ⟨g + 2, 3, none⟩ = some (.slice (some ⟨r, 0, none⟩) n n) ∧ w'.cell? ⟨b, off + k * 4, none⟩ = some (.string s0) ∧ w'.cell? ⟨b, off + k * 4 + 1, none⟩ = some (.string s1) ∧ w'.cell? ⟨b, off + k * 4 + 2, none⟩ = some (.pointer none) ∧ w'.cell? ⟨b, off + k * 4 + 3, none⟩ = some (.pointer (some ⟨b3, o3, none⟩)) ∧ w'.cell? ⟨b3, o3, none⟩ = some (.bool t3)) ((repeat' apply And.intro) <;> exact World.grownBy.cell (w := wr) (row := some r) (by repeat (first | with_reducible exact gy_refl _ _ | with_reducible apply gy_drew | with_reducible apply gy_setCell | with_reducible apply gy_alloc)) (by assumption) (by simp; omega)) (first | (go_at_call 14; refine (copyStr_nil _).mono ?_; rintro e w' ⟨rfl, rfl⟩) | (go_at_call 15; refine (copyBool_some b3 o3 t3 _ ?_).mono ?_; (simp [*]); rintro e w' ⟨rfl, rfl⟩))
        go_wp2
        exact IT.step hkn rfl rfl rfl rfl rfl rfl HG.out (by repeat (first | with_reducible apply GB.drew | with_reducible apply GB.setCell | with_reducible apply GB.alloc | exact GB.refl HG.out.2))
    · obtain ⟨w2', b2'⟩ := carry hg hb0 hG hr w2
      have e29 : ¬ r = b2 := by omega
      clear w2 b2'
      rcases p3 with rfl | ⟨b3, o3, t3, rfl, w3⟩
      · clear hG
        go_wp2
        go_region_held3 (fun w' => w'.cell? ⟨g, 3, none⟩ = some (.slice (some ⟨b, off, none⟩) n c) ∧ w'.cell? ⟨g + 2, 3, none⟩ = some (.slice (some ⟨r, 0, none⟩) n n) ∧ w'.cell? ⟨b, off + k * 4, none⟩ = some (.string s0) ∧ w'.cell? ⟨b, off + k * 4 + 1, none⟩ = some (.string s1) ∧ w'.cell? ⟨b, off + k * 4 + 2, none⟩ = some (.pointer (some ⟨b2, o2, none⟩)) ∧ w'.cell? ⟨b, off + k * 4 + 3, none⟩ = some (.pointer none) ∧ w'.cell? ⟨b2, o2, none⟩ = some (.string t2)) ((repeat' apply And.intro) <;> exact World.grownBy.cell (w := wr) (row := some r) (by repeat (first | with_reducible exact gy_refl _ _ | with_reducible apply gy_drew | with_reducible apply gy_setCell | with_reducible apply gy_alloc)) (by assumption) (by simp; omega)) (first | (go_at_call 14; refine (copyStr_some b2 o2 t2 _ ?_).mono ?_; (simp [*]); rintro e w' ⟨rfl, rfl⟩) | (go_at_call 15; refine (copyBool_nil _).mono ?_; rintro e w' ⟨rfl, rfl⟩))
        go_wp2
        exact IT.step hkn rfl rfl rfl rfl rfl rfl HG.out (by repeat (first | with_reducible apply GB.drew | with_reducible apply GB.setCell | with_reducible apply GB.alloc | exact GB.refl HG.out.2))
      · obtain ⟨w3', b3'⟩ := carry hg hb0 hG hr w3
        have e39 : ¬ r = b3 := by omega
        clear w3 b3'
        clear hG
        go_wp2
        go_region_held3 (fun w' => w'.cell? ⟨g, 3, none⟩ = some (.slice (some ⟨b, off, none⟩) n c) ∧ w'.cell? ⟨g + 2, 3, none⟩ = some (.slice (some ⟨r, 0, none⟩) n n) ∧ w'.cell? ⟨b, off + k * 4, none⟩ = some (.string s0) ∧ w'.cell? ⟨b, off + k * 4 + 1, none⟩ = some (.string s1) ∧ w'.cell? ⟨b, off + k * 4 + 2, none⟩ = some (.pointer (some ⟨b2, o2, none⟩)) ∧ w'.cell? ⟨b, off + k * 4 + 3, none⟩ = some (.pointer (some ⟨b3, o3, none⟩)) ∧ w'.cell? ⟨b2, o2, none⟩ = some (.string t2) ∧ w'.cell? ⟨b3, o3, none⟩ = some (.bool t3)) ((repeat' apply And.intro) <;> exact World.grownBy.cell (w := wr) (row := some r) (by repeat (first | with_reducible exact gy_refl _ _ | with_reducible apply gy_drew | with_reducible apply gy_setCell | with_reducible apply gy_alloc)) (by assumption) (by simp; omega)) (first | (go_at_call 14; refine (copyStr_some b2 o2 t2 _ ?_).mono ?_; (simp [*]); rintro e w' ⟨rfl, rfl⟩) | (go_at_call 15; refine (copyBool_some b3 o3 t3 _ ?_).mono ?_; (simp [*]); rintro e w' ⟨rfl, rfl⟩))
        go_wp2
        exact IT.step hkn rfl rfl rfl rfl rfl rfl HG.out (by repeat (first | with_reducible apply GB.drew | with_reducible apply GB.setCell | with_reducible apply GB.alloc | exact GB.refl HG.out.2))
  · have hge' : ¬ k < n := by omega
    clear hG hrow
    go_wp2
    exact HX.out _ _ ⟨rfl, rfl, rfl, rfl, rfl⟩ HG.out
end Go.Proofs.Qxb6613414a
