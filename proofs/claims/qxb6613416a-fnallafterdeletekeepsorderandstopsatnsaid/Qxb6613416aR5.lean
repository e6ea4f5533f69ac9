import Derived.Test.Qxb6613416aR4
namespace Go.Proofs.Qxb6613416a
open Go.RowKit Go.Maps

/-- A member: the entry that it stands for, and its value's dynamic type and value. -/
abbrev Mem := Ent × (TypeId × Value)
def noMem : Mem := ⟨noEnt, 0, .nilIface⟩
def memAt (M : List Mem) (k : Nat) : Mem := M.getD k noMem
theorem memAt_eq {M : List Mem} {k : Nat} (h : k < M.length) : memAt M k = M[k] := by simp [memAt, h]
/-- Their entries. -/
def ents (M : List Mem) : List Ent := M.map (·.1)
theorem ents_length (M : List Mem) : (ents M).length = M.length := by simp [ents]
theorem entAt_ents {M : List Mem} {k : Nat} (h : k < M.length) : entAt (ents M) k = (memAt M k).1 := by
  rw [entAt_eq (by rw [ents_length]; exact h), memAt_eq h]; simp [ents]
/-- Their cells. -/
def flat : List Mem → List Value
  | [] => []
  | m :: r => .string m.1.key :: .iface m.2.1 m.2.2 :: flat r
theorem flat_length : ∀ M : List Mem, (flat M).length = M.length * 2
  | [] => rfl
  | m :: r => by simp [flat, flat_length r]; omega
theorem flat_append : ∀ (A B : List Mem), flat (A ++ B) = flat A ++ flat B
  | [], _ => rfl
  | m :: r, B => by simp [flat, flat_append r B]
theorem flat_key : ∀ (M : List Mem) (k : Nat), k < M.length → (flat M)[k * 2]? = some (.string (memAt M k).1.key)
  | [], _, h => absurd h (Nat.not_lt_zero _)
  | m :: r, 0, _ => by simp [flat, memAt]
  | m :: r, k + 1, h => by
    have := flat_key r k (by simpa using h)
    simp only [flat, Nat.succ_mul]
    simpa [memAt] using this
theorem flat_val : ∀ (M : List Mem) (k : Nat), k < M.length → (flat M)[k * 2 + 1]? = some (.iface (memAt M k).2.1 (memAt M k).2.2)
  | [], _, h => absurd h (Nat.not_lt_zero _)
  | m :: r, 0, _ => by simp [flat, memAt]
  | m :: r, k + 1, h => by
    have := flat_val r k (by simpa using h)
    simp only [flat, Nat.succ_mul]
    simpa [memAt] using this
theorem flat_set : ∀ (M : List Mem) (i : Nat) (m : Mem) (hi : i < M.length), (M[i]).1.key = m.1.key → (flat M).set (i * 2 + 1) (.iface m.2.1 m.2.2) = flat (M.set i m)
  | [], _, _, h, _ => absurd h (Nat.not_lt_zero _)
  | a :: r, 0, m, _, he => by simp at he; simp [flat, he]
  | a :: r, k + 1, m, h, he => by
    have := flat_set r k m (by simpa using h) (by simpa using he)
    simp only [flat, List.set_cons_succ]
    rw [← this, show (k + 1) * 2 = (k * 2 + 1) + 1 by omega]
    rfl
/-- The members, one put. -/
def putM (M : List Mem) (m : Mem) : List Mem := match findE (ents M) m.1.key with
  | some i => M.set i m
  | none => M ++ [m]
theorem ents_putM (M : List Mem) (m : Mem) : ents (putM M m) = putE (ents M) m.1 := by
  unfold putM putE
  cases h : findE (ents M) m.1.key <;> simp [ents]

/-- The object: its two cells, its members' row, its index; all from block S0 on. -/
def ObjIs (S0 : Nat) (W : World) (ob : Nat) (M : List Mem) : Prop :=
  S0 ≤ ob ∧ Dist (ents M) ∧ (∀ k, k < M.length → (memAt M k).1.key.size ≤ maxLen) ∧
  ∃ r cap mi, W.heap[ob]? = some (obBlock r M.length cap mi) ∧ W.ownsRow S0 60 2 (.slice (some ⟨r, 0, none⟩) M.length cap) M.length (flat M) ∧
    (mi = none ∨ ∃ b, ∃ D : DataW Unit, mi = some b ∧ S0 ≤ b ∧ W.ownsMap Try.prog 9 (plainElem Try.prog 3) b M.length D ∧ IdxIs D (ents M))

theorem row_ne {W : World} {S0 ob r n cap n' : Nat} {mi : Option Nat} {xs : List Value} (h : W.heap[ob]? = some (obBlock r n cap mi)) (ho : W.ownsRow S0 60 2 (.slice (some ⟨r, 0, none⟩) n' cap) n' xs) : r ≠ ob := by
  rintro rfl
  rcases ho.2 with ⟨h', _⟩ | ⟨g, c, cur, h', _, hg, _⟩
  · simp at h'
  · simp only [Value.slice.injEq, Option.some.injEq, Addr.mk.injEq, and_true, true_and] at h'
    obtain ⟨rfl, rfl⟩ := h'
    rw [h] at hg
    simp [obBlock] at hg
theorem map_ne {W : World} {ob b m : Nat} {cs : Array Value} {t : TypeId} {D : DataW Unit} (h : W.heap[ob]? = some (.cells cs t (0, 0))) (ho : W.ownsMap Try.prog 9 (plainElem Try.prog 3) b m D) : b ≠ ob := by
  rintro rfl
  obtain ⟨es, cl, hb, _⟩ := ho
  rw [h] at hb
  simp at hb
theorem row_block {W : World} {S0 r n cap e sz : Nat} {xs : List Value} (ho : W.ownsRow S0 e sz (.slice (some ⟨r, 0, none⟩) n cap) n xs) : S0 ≤ r ∧ ∃ cur, W.heap[r]? = some (.cells cur e (0, 0)) := by
  rcases ho.2 with ⟨h', _⟩ | ⟨g, c, cur, h', hb, hg, _⟩
  · simp at h'
  · simp only [Value.slice.injEq, Option.some.injEq, Addr.mk.injEq, and_true, true_and] at h'
    obtain ⟨rfl, rfl⟩ := h'
    exact ⟨hb, cur, hg⟩

theorem ObjIs.size {S0 : Nat} {W : World} {ob : Nat} {M : List Mem} (h : ObjIs S0 W ob M) : S0 ≤ W.heap.size := by
  obtain ⟨h1, _, _, r, cap, mi, hob, _⟩ := h
  exact Nat.le_of_lt (Nat.lt_of_le_of_lt h1 (lt_of_block hob))

def SearchPost (S0 : Nat) (w : World) (ob : Nat) (M : List Mem) (key : ByteArray) (e : Ending) (w' : World) : Prop :=
  e = .returned (found (ents M) key) ∧ ObjIs S0 w' ob M ∧ Below S0 w w'

theorem search_any (S0 ob : Nat) (M : List Mem) (key : ByteArray) (w : World) (hkey : key.size ≤ maxLen) (hn : M.length ≤ 1048576) (h : ObjIs S0 w ob M) :
    Calls Try.prog 20 #[.pointer (some ⟨ob, 0, none⟩), .string key] w fun e w' => SearchPost S0 w ob M key e w' := by
  have h' := h
  obtain ⟨hge, hD, hks, r, cap, mi, hob, hown, hmi⟩ := h'
  have hr := row_ne hob hown
  have hcell : ∀ k, k < M.length → w.cell? ⟨r, k * 2, none⟩ = some (.string (entAt (ents M) k).key) ∧ w.cell? ⟨r, k * 2 + 1, none⟩ = some (.iface (memAt M k).2.1 (memAt M k).2.2) := by
    intro k hk
    rw [entAt_ents hk, hown.cellAt _ (by omega), hown.cellAt _ (by omega)]
    exact ⟨flat_key M k hk, flat_val M k hk⟩
  by_cases hs : M.length ≤ 64
  · refine (search_small ob r M.length cap (ents M) key w (ents_length M) hs (ob_cell0 hob) (fun k hk => (hcell k hk).1)).mono ?_
    rintro e w' ⟨rfl, rfl⟩
    exact ⟨rfl, h, Below.refl _ _⟩
  · rcases hmi with rfl | ⟨b, D, rfl, hb, hmap, hI⟩
    · refine (search_build ob r M.length cap (ents M) (fun k => (memAt M k).2) key w hkey (by omega) hn hob hr hcell hD (ents_length M) (fun k hk => by rw [entAt_ents hk]; exact hks k hk)).mono ?_
      rintro e w' ⟨rfl, hob', hg, D, hmap, hI⟩
      exact ⟨rfl, ⟨hge, hD, hks, r, cap, _, hob', hown.kept hg (.inr (by simpa [Value.ownBlock] using hr)), .inr ⟨_, D, rfl, h.size, hmap, hI⟩⟩, (Below.refl S0 w).grown hg h.size (fun k hk => by cases hk; exact hge)⟩
    · refine (search_map ob r M.length cap b M.length D (ents M) key w hkey (by omega) hn (ob_cell0 hob) (ob_cell1 hob) hmap hI).mono ?_
      rintro e w' ⟨rfl, rfl⟩
      exact ⟨rfl, h, Below.refl _ _⟩
end Go.Proofs.Qxb6613416a
