import Derived.Test.Qxb6613416aR6
namespace Go.Proofs.Qxb6613416a
open Go.RowKit Go.Maps

/-- As Rep, the box known whole. -/
def Held (W : World) (e : Ent) (v : Value) : Prop :=
  (v = .iface 9 (.string e.text) ∧ e.num = false) ∨ (v = .iface 66 (.string e.text) ∧ e.num = true) ∨
  ∃ b, v = .iface 68 (.pointer (some ⟨b, 0, none⟩)) ∧ W.heap[b]? = some (.cells #[.string e.text, .bool e.num] 70 (0, 0))
theorem Held.rep {W : World} {e : Ent} {v : Value} (h : Held W e v) : Rep W e v := by
  rcases h with h | h | ⟨b, h, hb⟩
  · exact .inl h
  · exact .inr (.inl h)
  · exact .inr (.inr ⟨b, h, by simp [World.cell?, hb], by simp [World.cell?, hb]⟩)
theorem Held.kept {W W' : World} {e : Ent} {v : Value} {row : Option Nat} (h : Held W e v) (hg : W.grownBy W' row) (hr : ∀ r, row = some r → ∃ cur, W.heap[r]? = some (.cells cur 60 (0, 0))) : Held W' e v := by
  rcases h with h | h | ⟨b, h, hb⟩
  · exact .inl h
  · exact .inr (.inl h)
  · refine .inr (.inr ⟨b, h, (hg.block b (lt_of_block hb) (fun e => ?_)).trans hb⟩)
    obtain ⟨cur, hc⟩ := hr b e.symm
    rw [hb] at hc
    simp at hc
theorem Held.alloc {W : World} {e : Ent} {v : Value} (h : Held W e v) (o : Obj) : Held (W.alloc o) e v := h.kept (World.grownBy_alloc W o none) (fun _ h => by cases h)
theorem Held.below {W W' : World} {e : Ent} {v : Value} (h : Held W e v) (hb : Below W.heap.size W W') : Held W' e v := by
  rcases h with h | h | ⟨b, h, hb'⟩
  · exact .inl h
  · exact .inr (.inl h)
  · exact .inr (.inr ⟨b, h, (hb.block b (lt_of_block hb')).trans hb'⟩)

def MemPost (w : World) (k t : ByteArray) (x : Bool) (e : Ending) (w' : World) : Prop :=
  ∃ (ty : TypeId) (v : Value), e = .returned (.agg #[.string k, .iface ty v]) ∧ Held w' ⟨k, t, x⟩ (.iface ty v) ∧ Below w.heap.size w w'

set_option maxHeartbeats 800000 in
theorem scalar_mem (k t : ByteArray) (x : Bool) (w : World) : Calls Try.prog 22 #[.string k, .string t, .bool x] w fun e w' => MemPost w k t x e w' := by
  go_enter Try.func22, Try.ntmps22
  go_wp2
  refine bodyPost_ret (v := .agg #[.string k, .iface 68 (.pointer (some ⟨w.heap.size + 1, 0, none⟩))]) (by simp [results, Try.results22, go_sem]) rfl ⟨_, _, rfl, .inr (.inr ⟨_, rfl, ?_⟩), ((Below.refl _ _).alloc (Nat.le_refl _) _).alloc (by simp) _⟩
  have : ∀ o o', ((w.alloc o).alloc o').heap[w.heap.size + 1]? = some o' := fun o o' => by
    have h := heap_alloc_new (w.alloc o) o'
    simpa using h
  exact this _ _
theorem number_mem (k t : ByteArray) (w : World) : Calls Try.prog 23 #[.string k, .string t] w fun e w' => MemPost w k t true e w' :=
  (numberMember k t w).mono fun _ _ h => ⟨_, _, h.1, .inr (.inl ⟨rfl, rfl⟩), h.2⟩
theorem string_mem (k t : ByteArray) (w : World) : Calls Try.prog 24 #[.string k, .string t] w fun e w' => MemPost w k t false e w' :=
  (stringMember k t w).mono fun _ _ h => ⟨_, _, h.1, .inl ⟨rfl, rfl⟩, h.2⟩

/-- The members made so far: of the first k pairs. -/
structure MemsIs (w : World) (n : Nat) (ps : List Pr) (k : Nat) (M : List Mem) (wr : World) : Prop where
  len : M.length = k
  own : wr.ownsRow w.heap.size 60 2 (.slice (some ⟨w.heap.size, 0, none⟩) k n) k (flat M)
  held : ∀ j, j < k → Held wr (prAt ps j).ent (.iface (memAt M j).2.1 (memAt M j).2.2)
  ent : ∀ j, j < k → (memAt M j).1 = (prAt ps j).ent
  below : Below w.heap.size w wr

theorem memAt_snoc_lt {M : List Mem} {m : Mem} {j : Nat} (h : j < M.length) : memAt (M ++ [m]) j = memAt M j := by
  rw [memAt_eq (by simp; omega), memAt_eq h, List.getElem_append_left h]
theorem memAt_snoc_eq {M : List Mem} {m : Mem} : memAt (M ++ [m]) M.length = m := by
  rw [memAt_eq (by simp)]; simp

theorem MemsIs.step {w : World} {n : Nat} {ps : List Pr} {k : Nat} {M : List Mem} {wr w1 w2 : World} (h : MemsIs w n ps k M wr) {o o' : Obj} {ty : TypeId} {v : Value} (h1 : Held w1 (prAt ps k).ent (.iface ty v)) (hb1 : Below (wr.alloc o).heap.size (wr.alloc o) w1)
    (hown : w2.ownsRow w.heap.size 60 2 (.slice (some ⟨w.heap.size, 0, none⟩) (k + 1) n) (k + 1) (flat M ++ [.string (prAt ps k).key, .iface ty v])) (hg : (w1.alloc o').grownBy w2 (some w.heap.size)) :
    MemsIs w n ps (k + 1) (M ++ [((prAt ps k).ent, ty, v)]) w2 := by
  obtain ⟨len, own, held, ent, bel⟩ := h
  subst len
  have hs := bel.size
  have hbel1 : Below wr.heap.size wr w1 := ((Below.refl _ _).alloc (Nat.le_refl _) o).trans (hb1.mono (by simp))
  have hlt := lt_of_block (row_block own).2.choose_spec
  have hrow : ∀ r, some w.heap.size = some r → ∃ cur, (w1.alloc o').heap[r]? = some (.cells cur 60 (0, 0)) := by
    intro r hr
    cases hr
    obtain ⟨cur, hc⟩ := (row_block own).2
    exact ⟨cur, ((heap_alloc_old w1 o' (Nat.lt_of_lt_of_le hlt hbel1.size)).trans (hbel1.block _ hlt)).trans hc⟩
  refine ⟨by simp, by rw [flat_snoc]; exact hown, fun j hj => ?_, fun j hj => ?_, ?_⟩
  · rcases Nat.lt_succ_iff_lt_or_eq.1 hj with hj | rfl
    · rw [memAt_snoc_lt hj]
      exact (((held j hj).below hbel1).alloc o').kept hg hrow
    · rw [memAt_snoc_eq]
      exact (h1.alloc o').kept hg hrow
  · rcases Nat.lt_succ_iff_lt_or_eq.1 hj with hj | rfl
    · rw [memAt_snoc_lt hj]; exact ent j hj
    · rw [memAt_snoc_eq]
  · exact ((bel.trans (hbel1.mono hs)).alloc (Nat.le_trans hs hbel1.size) o').grown hg (by simp; have := hbel1.size; omega) (fun k hk => by cases hk; exact Nat.le_refl _)

theorem MemsIs.own_after {w : World} {n : Nat} {ps : List Pr} {k : Nat} {M : List Mem} {wr w1 : World} (h : Hid (MemsIs w n ps k M wr)) {o : Obj} (hb1 : Below (wr.alloc o).heap.size (wr.alloc o) w1) :
    w1.ownsRow w.heap.size 60 2 (.slice (some ⟨w.heap.size, 0, none⟩) k n) k (flat M) := by
  have hbel1 : Below wr.heap.size wr w1 := ((Below.refl _ _).alloc (Nat.le_refl _) o).trans (hb1.mono (by simp))
  exact h.out.own.kept (row := none) ⟨hbel1.os, hbel1.tape, hbel1.output, hbel1.size, fun k hk _ => hbel1.block k hk⟩ (.inr (by simp [Value.ownBlock]))

theorem MemsIs.step' {w : World} {n : Nat} {ps : List Pr} {k : Nat} {M : List Mem} {wr w1 w2 : World} (h : Hid (MemsIs w n ps k M wr)) {o o' : Obj} {ty : TypeId} {v : Value} {key text : ByteArray} {num sca : Bool} (hp : ⟨key, text, num, sca⟩ = prAt ps k)
    (h1 : Held w1 ⟨key, text, num⟩ (.iface ty v)) (hb1 : Below (wr.alloc o).heap.size (wr.alloc o) w1)
    (hown : w2.ownsRow w.heap.size 60 2 (.slice (some ⟨w.heap.size, 0, none⟩) (k + 1) n) (k + 1) (flat M ++ [.string key, .iface ty v])) (hg : (w1.alloc o').grownBy w2 (some w.heap.size)) :
    Hid (MemsIs w n ps (k + 1) (M ++ [(⟨key, text, num⟩, ty, v)]) w2) := by
  have := MemsIs.step (ty := ty) (v := v) h.out (by rw [← hp]; exact h1) hb1 (by rw [← hp]; exact hown) hg
  rw [← hp] at this
  exact this

def BuildPost (w : World) (n : Nat) (ps : List Pr) (e : Ending) (w' : World) : Prop :=
  e = .returned (.slice (some ⟨w.heap.size, 0, none⟩) n n) ∧ ∃ M, MemsIs w n ps n M w'

set_option maxHeartbeats 8000000 in
theorem members_any (a : Option Addr) (n c : Nat) (ps : List Pr) (w : World) (h : PairRow w a n ps) (hn : n ≤ 4096) :
    Calls Try.prog 15 #[.slice a n c, .int .i64 0] w fun e w' => BuildPost w n ps e w' := by
  obtain ⟨i0, hi, hz0, hz1, hz2⟩ := info_parts info60
  have H := hid h
  clear h
  go_enter Try.func15, Try.ntmps15
  go_wp2_with (first
    | (at_make; refine wpList_make_own _ rfl _ _ 45 rfl w.heap.size 60 i0 _ 2 Try.underlying45 hi hz0 hz1 .i64 .i64 _ n rfl rfl (by omega) (by rw [hz2]; omega) (by unfold maxLen; omega) (Nat.le_refl _) ?_; intro w1 hown hg; have HOWN := hid hown; have HG := hid hg; clear hown hg)
    | go_in)
  go_loopw [5, 6, 7] (fun v i _ wr => ∃ (k : Nat) (M : List Mem), k ≤ n ∧ i = .int .i64 k ∧ v = .slice (some ⟨w.heap.size, 0, none⟩) k n ∧ Hid (MemsIs w n ps k M wr)) (fun _ i _ _ => n - (intOf i).toNat)
  case atStart => exact ⟨0, [], Nat.zero_le _, rfl, rfl, ⟨rfl, HOWN.out, fun j hj => absurd hj (Nat.not_lt_zero _), fun j hj => absurd hj (Nat.not_lt_zero _), (Below.refl _ _).grown HG.out (Nat.le_refl _) (fun k hk => by cases hk)⟩⟩
  case round =>
    obtain ⟨k, M, hk, rfl, rfl, HR⟩ := hrel
    by_cases hlt : k < n
    · obtain ⟨b, off, rfl, q0, q1, q2, q3⟩ := (H.out.below HR.out.below).2 k hlt
      obtain ⟨pr, hpr⟩ : ∃ pr, pr = prAt ps k := ⟨_, rfl⟩
      rw [← hpr] at q0 q1 q2 q3
      have HP := hid hpr
      clear hpr
      obtain ⟨key, text, num, sca⟩ := pr
      simp only at q0 q1 q2 q3
      cases sca
      case true =>
        go_wp2_with (first
          | (go_at_call 22; refine (scalar_mem key text num _).mono ?_; rintro e w1 ⟨ty, v, rfl, hh, hb⟩; have hs1 := hb.size; have HB1 := hid (And.intro hh hb); have own1 := MemsIs.own_after HR hb; clear hh hb)
          | (at_builtin; refine wpList_append_fits _ rfl (.tmp 25) (.tmp 33) 45 rfl w.heap.size 60 i0 2 Try.underlying45 hi hz1 w.heap.size k n (flat M) rfl (own1.alloc _) ⟨w1.heap.size, 0, none⟩ 1 1 [.string key, .iface ty v] rfl rfl (mem_new w1 key ty v) (mem_one key ty v) (by omega) ?_; intro w2 hown2 hg2; have HW2 := hid (And.intro hown2 hg2); clear hown2 hg2))
        go_roundw
        case rel => exact ⟨k + 1, _, by omega, by go_num, rfl, MemsIs.step' HR HP.out HB1.out.1 HB1.out.2 HW2.out.1 HW2.out.2⟩
        case measure => simp [intOf]; omega

      case false =>
        cases num
        case true =>
          go_wp2_with (first
            | (go_at_call 23; refine (number_mem key text _).mono ?_; rintro e w1 ⟨ty, v, rfl, hh, hb⟩; have hs1 := hb.size; have HB1 := hid (And.intro hh hb); have own1 := MemsIs.own_after HR hb; clear hh hb)
            | (at_builtin; refine wpList_append_fits _ rfl (.tmp 37) (.tmp 43) 45 rfl w.heap.size 60 i0 2 Try.underlying45 hi hz1 w.heap.size k n (flat M) rfl (own1.alloc _) ⟨w1.heap.size, 0, none⟩ 1 1 [.string key, .iface ty v] rfl rfl (mem_new w1 key ty v) (mem_one key ty v) (by omega) ?_; intro w2 hown2 hg2; have HW2 := hid (And.intro hown2 hg2); clear hown2 hg2))
          go_roundw
          case rel => exact ⟨k + 1, _, by omega, by go_num, rfl, MemsIs.step' HR HP.out HB1.out.1 HB1.out.2 HW2.out.1 HW2.out.2⟩
          case measure => simp [intOf]; omega

        case false =>
          go_wp2_with (first
            | (go_at_call 24; refine (string_mem key text _).mono ?_; rintro e w1 ⟨ty, v, rfl, hh, hb⟩; have hs1 := hb.size; have HB1 := hid (And.intro hh hb); have own1 := MemsIs.own_after HR hb; clear hh hb)
            | (at_builtin; refine wpList_append_fits _ rfl (.tmp 45) (.tmp 51) 45 rfl w.heap.size 60 i0 2 Try.underlying45 hi hz1 w.heap.size k n (flat M) rfl (own1.alloc _) ⟨w1.heap.size, 0, none⟩ 1 1 [.string key, .iface ty v] rfl rfl (mem_new w1 key ty v) (mem_one key ty v) (by omega) ?_; intro w2 hown2 hg2; have HW2 := hid (And.intro hown2 hg2); clear hown2 hg2))
          go_roundw
          case rel => exact ⟨k + 1, _, by omega, by go_num, rfl, MemsIs.step' HR HP.out HB1.out.1 HB1.out.2 HW2.out.1 HW2.out.2⟩
          case measure => simp [intOf]; omega

    · go_wp2
      go_ret
      obtain rfl : k = n := by omega
      exact ⟨rfl, M, HR.out⟩
end Go.Proofs.Qxb6613416a
