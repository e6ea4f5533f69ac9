import Derived.Test.Qxb6613416aS2
namespace Go.Proofs.Qxb6613416a
open Go.RowKit Go.Maps Go.Shelf

/-- The three result variables: boxes B, B + 1, B + 2; what their slices own. -/
structure St (n₀ B : Nat) (W : World) (v1 v2 v3 : Value) (n : Nat) (xs1 : List Value) (n2 : Nat) (xs2 : List Value) (n3 : Nat) (xs3 : List Value) : Prop where
  ge : n₀ ≤ B
  b1 : Boxed W B 27 v1
  b2 : Boxed W (B + 1) 27 v2
  b3 : Boxed W (B + 2) 28 v3
  r1 : W.ownsRow n₀ 9 1 v1 n xs1
  r2 : W.ownsRow n₀ 9 1 v2 n2 xs2
  r3 : W.ownsRow n₀ 3 1 v3 n3 xs3
  ne : ∀ g, v1.ownBlock = some g → v2.ownBlock ≠ some g

theorem St.size {n₀ B : Nat} {W : World} {v1 v2 v3 : Value} {n n2 n3 : Nat} {xs1 xs2 xs3 : List Value} (h : St n₀ B W v1 v2 v3 n xs1 n2 xs2 n3 xs3) : n₀ ≤ W.heap.size := Nat.le_trans h.ge (Nat.le_of_lt h.b1.lt)

/-- Rows of different element types lie in different blocks. -/
theorem rows_ne {W : World} {n₀ e e' : Nat} (hee : e ≠ e') {v v' : Value} {n n' : Nat} {xs xs' : List Value} (h : W.ownsRow n₀ e 1 v n xs) (h' : W.ownsRow n₀ e' 1 v' n' xs') : v.ownBlock = none ∨ v.ownBlock ≠ v'.ownBlock := by
  rcases h.2 with ⟨rfl, _⟩ | ⟨g, cap, cur, rfl, _, hg, _⟩
  · exact .inl rfl
  · refine .inr fun e1 => ?_
    rcases h'.2 with ⟨rfl, _⟩ | ⟨g', cap', cur', rfl, _, hg', _⟩
    · simp [Value.ownBlock] at e1
    · simp only [Value.ownBlock, Option.some.injEq] at e1
      subst e1
      rw [hg] at hg'
      simp at hg'
      exact hee hg'.2
theorem ne_none_or {a b : Option Nat} (h : ∀ g, a = some g → b ≠ some g) : b = none ∨ b ≠ a := by
  cases b with
  | none => exact .inl rfl
  | some g => exact .inr fun e => h g e.symm rfl
theorem ne_none_or' {a b : Option Nat} (h : ∀ g, a = some g → b ≠ some g) : a = none ∨ a ≠ b := by
  cases a with
  | none => exact .inl rfl
  | some g => exact .inr fun e => h g rfl e.symm
theorem row_lt {W : World} {n₀ e : Nat} {v : Value} {n : Nat} {xs : List Value} (h : W.ownsRow n₀ e 1 v n xs) {g : Nat} (hg : v.ownBlock = some g) : g < W.heap.size := (h.lt g hg).2

/-- What the turn of the first box and its row leaves. -/
theorem St.app1 {n₀ B : Nat} {W w1 : World} {v1 v2 v3 v' : Value} {n n2 n3 : Nat} {xs1 xs2 xs3 ys : List Value} {tmp : Obj} (h : St n₀ B W v1 v2 v3 n xs1 n2 xs2 n3 xs3) (hown : w1.ownsRow n₀ 9 1 v' (n + 1) ys) (hgrow : (W.alloc tmp).grownBy w1 v1.ownBlock)
    (hat : v'.ownBlock = v1.ownBlock ∨ v'.ownBlock = some (W.alloc tmp).heap.size) :
    Boxed w1 B 27 v1 ∧ St n₀ B (w1.setCell ⟨B, 0, none⟩ v') v' v2 v3 (n + 1) ys n2 xs2 n3 xs3 ∧ KeepsOthers W (w1.setCell ⟨B, 0, none⟩ v') ∧ Below n₀ W (w1.setCell ⟨B, 0, none⟩ v') := by
  obtain ⟨hv1, hv2, hr2, hk2, hb2⟩ := h.b1.appended (by decide) h.r1 h.size h.ge hown hgrow
  have o2 := (h.r2.alloc tmp).kept hgrow (ne_none_or h.ne)
  have o3 := (h.r3.alloc tmp).kept hgrow (rows_ne (by decide) h.r3 h.r1)
  refine ⟨hv1, ⟨h.ge, hv2, ?_, ?_, hr2, ?_, ?_, ?_⟩, hk2, hb2⟩
  · exact ((h.b2.alloc tmp).kept hgrow (h.b2.not_row (by decide) h.r1)).kept (grownBy_setCell' w1 B v') (by simp)
  · exact ((h.b3.alloc tmp).kept hgrow (h.b3.not_row (by decide) h.r1)).kept (grownBy_setCell' w1 B v') (by simp)
  · exact o2.kept (grownBy_setCell' w1 B v') (.inr (hv1.not_row (by decide) o2).symm)
  · exact o3.kept (grownBy_setCell' w1 B v') (.inr (hv1.not_row (by decide) o3).symm)
  · intro g hg
    rcases hat with e | e
    · exact h.ne g (e ▸ hg)
    · rw [hg] at e
      cases e
      intro e2
      have := row_lt h.r2 e2
      simp at this
      omega
theorem St.app2 {n₀ B : Nat} {W w1 : World} {v1 v2 v3 v' : Value} {n n2 n3 : Nat} {xs1 xs2 xs3 ys : List Value} {tmp : Obj} (h : St n₀ B W v1 v2 v3 n xs1 n2 xs2 n3 xs3) (hown : w1.ownsRow n₀ 9 1 v' (n2 + 1) ys) (hgrow : (W.alloc tmp).grownBy w1 v2.ownBlock)
    (hat : v'.ownBlock = v2.ownBlock ∨ v'.ownBlock = some (W.alloc tmp).heap.size) :
    Boxed w1 (B + 1) 27 v2 ∧ St n₀ B (w1.setCell ⟨B + 1, 0, none⟩ v') v1 v' v3 n xs1 (n2 + 1) ys n3 xs3 ∧ KeepsOthers W (w1.setCell ⟨B + 1, 0, none⟩ v') ∧ Below n₀ W (w1.setCell ⟨B + 1, 0, none⟩ v') := by
  obtain ⟨hv1, hv2, hr2, hk2, hb2⟩ := h.b2.appended (by decide) h.r2 h.size (Nat.le_succ_of_le h.ge) hown hgrow
  have o1 := (h.r1.alloc tmp).kept hgrow (ne_none_or' h.ne)
  have o3 := (h.r3.alloc tmp).kept hgrow (rows_ne (by decide) h.r3 h.r2)
  refine ⟨hv1, ⟨h.ge, ?_, hv2, ?_, ?_, hr2, ?_, ?_⟩, hk2, hb2⟩
  · exact ((h.b1.alloc tmp).kept hgrow (h.b1.not_row (by decide) h.r2)).kept (grownBy_setCell' w1 _ v') (by simp)
  · exact ((h.b3.alloc tmp).kept hgrow (h.b3.not_row (by decide) h.r2)).kept (grownBy_setCell' w1 _ v') (by simp)
  · exact o1.kept (grownBy_setCell' w1 _ v') (.inr (hv1.not_row (by decide) o1).symm)
  · exact o3.kept (grownBy_setCell' w1 _ v') (.inr (hv1.not_row (by decide) o3).symm)
  · intro g hg
    rcases hat with e | e
    · rw [e]; exact h.ne g hg
    · rw [e]
      intro e2
      cases e2
      have := row_lt h.r1 hg
      simp at this
      omega
theorem St.app3 {n₀ B : Nat} {W w1 : World} {v1 v2 v3 v' : Value} {n n2 n3 : Nat} {xs1 xs2 xs3 ys : List Value} {tmp : Obj} (h : St n₀ B W v1 v2 v3 n xs1 n2 xs2 n3 xs3) (hown : w1.ownsRow n₀ 3 1 v' (n3 + 1) ys) (hgrow : (W.alloc tmp).grownBy w1 v3.ownBlock) :
    Boxed w1 (B + 2) 28 v3 ∧ St n₀ B (w1.setCell ⟨B + 2, 0, none⟩ v') v1 v2 v' n xs1 n2 xs2 (n3 + 1) ys ∧ KeepsOthers W (w1.setCell ⟨B + 2, 0, none⟩ v') ∧ Below n₀ W (w1.setCell ⟨B + 2, 0, none⟩ v') := by
  obtain ⟨hv1, hv2, hr2, hk2, hb2⟩ := h.b3.appended (by decide) h.r3 h.size (by have := h.ge; omega) hown hgrow
  have o1 := (h.r1.alloc tmp).kept hgrow (rows_ne (by decide) h.r1 h.r3)
  have o2 := (h.r2.alloc tmp).kept hgrow (rows_ne (by decide) h.r2 h.r3)
  refine ⟨hv1, ⟨h.ge, ?_, ?_, hv2, ?_, ?_, hr2, h.ne⟩, hk2, hb2⟩
  · exact ((h.b1.alloc tmp).kept hgrow (h.b1.not_row (by decide) h.r3)).kept (grownBy_setCell' w1 _ v') (by simp)
  · exact ((h.b2.alloc tmp).kept hgrow (h.b2.not_row (by decide) h.r3)).kept (grownBy_setCell' w1 _ v') (by simp)
  · exact o1.kept (grownBy_setCell' w1 _ v') (.inr (hv1.not_row (by decide) o1).symm)
  · exact o2.kept (grownBy_setCell' w1 _ v') (.inr (hv1.not_row (by decide) o2).symm)

/-- What is no cells may turn. -/
theorem St.kept {n₀ B : Nat} {X Y : World} {v1 v2 v3 : Value} {n n2 n3 : Nat} {xs1 xs2 xs3 : List Value} {row : Option Nat} (h : St n₀ B X v1 v2 v3 n xs1 n2 xs2 n3 xs3) (hg : X.grownBy Y row) (hrow : ∀ r, row = some r → ∃ o : Obj, X.heap[r]? = some o ∧ o.isCells = false) : St n₀ B Y v1 v2 v3 n xs1 n2 xs2 n3 xs3 := by
  have bx : ∀ {B' : Nat} {t : TypeId} {v : Value}, Boxed X B' t v → Boxed Y B' t v := fun {B' t v} hb => hb.kept hg (fun e' => by
    obtain ⟨o, ho, hc⟩ := hrow B' e'.symm
    rw [show X.heap[B']? = _ from hb] at ho; cases ho; cases hc)
  have rx : ∀ {e : TypeId} {v : Value} {k : Nat} {xs : List Value}, X.ownsRow n₀ e 1 v k xs → Y.ownsRow n₀ e 1 v k xs := fun {e v k xs} hr => hr.kept hg (by
    rcases hr.2 with ⟨rfl, _⟩ | ⟨g, cap, cur, rfl, _, hgb, _⟩
    · exact .inl rfl
    · refine .inr fun e' => ?_
      obtain ⟨o, ho, hc⟩ := hrow g (by simpa [Value.ownBlock] using e'.symm)
      rw [hgb] at ho; cases ho; cases hc)
  exact ⟨h.ge, bx h.b1, bx h.b2, bx h.b3, rx h.r1, rx h.r2, rx h.r3, h.ne⟩

/-- The three lists of the entries that have come. -/
def Trio (n₀ B : Nat) (L : List Ent) (W : World) : Prop :=
  ∃ v1 v2 v3, St n₀ B W v1 v2 v3 L.length (L.map fun e => .string e.key) L.length (L.map fun e => .string e.text) L.length (L.map fun e => .int .i64 (kindI e))
theorem Trio.own (n₀ B : Nat) : Own (Trio n₀ B) := by
  rintro L X Y row ⟨v1, v2, v3, h⟩ hg hrow
  exact ⟨v1, v2, v3, h.kept hg hrow⟩
theorem Trio.start (w : World) (o : Obj) : Trio w.heap.size w.heap.size [] ((((w.alloc (.cells #[.slice none 0 0] 27)).alloc (.cells #[.slice none 0 0] 27)).alloc (.cells #[.slice none 0 0] 28)).alloc o) := by
  have b1 := Boxed.new w 27 (.slice none 0 0)
  have b2 := Boxed.new (w.alloc (.cells #[.slice none 0 0] 27)) 27 (.slice none 0 0)
  have b3 := Boxed.new ((w.alloc (.cells #[.slice none 0 0] 27)).alloc (.cells #[.slice none 0 0] 27)) 28 (.slice none 0 0)
  simp only [World.size_alloc] at b2 b3
  exact ⟨_, _, _, Nat.le_refl _, ((b1.alloc _).alloc _).alloc _, (b2.alloc _).alloc _, b3.alloc _, World.ownsRow_nil _ _ _ _, World.ownsRow_nil _ _ _ _, World.ownsRow_nil _ _ _ _, fun g hg => by simp [Value.ownBlock] at hg⟩
end Go.Proofs.Qxb6613416a
