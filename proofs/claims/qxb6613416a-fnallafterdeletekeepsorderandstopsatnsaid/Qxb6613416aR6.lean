import Derived.Test.Qxb6613416aR5
namespace Go.Proofs.Qxb6613416a
open Go.RowKit Go.Maps

theorem info60 : (Try.prog.info? 60).map (fun i => (i.zero, i.size, i.bytes)) = some (some (.agg #[.string ByteArray.empty, .nilIface]), 2, 32) := by kernel_rfl

/-- The one member that is appended, in the block of its own. -/
theorem mem_new (w : World) (k : ByteArray) (t : TypeId) (v : Value) : ∀ j u, [Value.string k, .iface t v][j]? = some u → (w.alloc (.cells #[.string k, .iface t v] 60)).cell? ((⟨w.heap.size, 0, none⟩ : Addr).add j) = some u := by
  intro j u hj
  match j, hj with
  | 0, hj => simp at hj; subst hj; simp [Addr.add]
  | 1, hj => simp at hj; subst hj; simp [Addr.add]
theorem mem_one (k : ByteArray) (t : TypeId) (v : Value) : ∀ u ∈ [Value.string k, .iface t v], u.oneCell' = true := by
  intro u hu
  simp at hu
  rcases hu with rfl | rfl <;> rfl

/-- What is known behind the append. -/
theorem add_after {S0 : Nat} {w w1 : World} {ob r n cap : Nat} {mi : Option Nat} {o : Obj} {v' : Value} {xs : List Value} (hob : w.heap[ob]? = some (obBlock r n cap mi)) (hr : r ≠ ob)
    (hown : w1.ownsRow S0 60 2 v' (n + 1) xs) (hg : (w.alloc o).grownBy w1 (some r)) :
    ∃ g cap', v' = .slice (some ⟨g, 0, none⟩) (n + 1) cap' ∧ w1.heap[ob]? = some (obBlock r n cap mi) := by
  have hlt := lt_of_block hob
  have e : w1.heap[ob]? = some (obBlock r n cap mi) := ((hg.block ob (by simp; omega) (by simpa using hr.symm)).trans (heap_alloc_old w o hlt)).trans hob
  rcases hown.2 with ⟨_, h'⟩ | ⟨g, c, cur, h', _⟩
  · cases h'
  · exact ⟨g, c, h', e⟩

theorem flat_snoc (M : List Mem) (m : Mem) : flat (M ++ [m]) = flat M ++ [.string m.1.key, .iface m.2.1 m.2.2] := by rw [flat_append]; rfl
theorem key_snoc {M : List Mem} {m : Mem} (h : ∀ k, k < M.length → (memAt M k).1.key.size ≤ maxLen) (hm : m.1.key.size ≤ maxLen) : ∀ k, k < (M ++ [m]).length → (memAt (M ++ [m]) k).1.key.size ≤ maxLen := by
  intro k hk
  rw [memAt_eq hk]
  by_cases hkl : k < M.length
  · rw [List.getElem_append_left hkl, ← memAt_eq hkl]; exact h k hkl
  · simp only [List.length_append, List.length_cons, List.length_nil] at hk
    obtain rfl : k = M.length := by omega
    simpa using hm

/-- The object behind the append, its index nil. -/
theorem ObjIs.added {S0 : Nat} {w1 : World} {ob g cap' : Nat} {M : List Mem} {m : Mem} (hge : S0 ≤ ob) (hD : Dist (ents M)) (hks : ∀ k, k < M.length → (memAt M k).1.key.size ≤ maxLen) (hm : m.1.key.size ≤ maxLen)
    (hno : findE (ents M) m.1.key = none) (hown : w1.ownsRow S0 60 2 (.slice (some ⟨g, 0, none⟩) (M.length + 1) cap') (M.length + 1) (flat M ++ [.string m.1.key, .iface m.2.1 m.2.2])) {w2 : World} {mi' : Option Nat}
    (hob2 : w2.heap[ob]? = some (obBlock g (M.length + 1) cap' mi')) (hrow : ∀ cur, w1.heap[g]? = some (.cells cur 60 (0, 0)) → w2.heap[g]? = some (.cells cur 60 (0, 0)))
    (hidx : mi' = none ∨ ∃ b, ∃ D : DataW Unit, mi' = some b ∧ S0 ≤ b ∧ w2.ownsMap Try.prog 9 (plainElem Try.prog 3) b (M.length + 1) D ∧ IdxIs D (ents M ++ [m.1])) : ObjIs S0 w2 ob (M ++ [m]) := by
  have hl : (M ++ [m]).length = M.length + 1 := by simp
  have he : ents (M ++ [m]) = ents M ++ [m.1] := by simp [ents]
  refine ⟨hge, by rw [he]; exact hD.snoc hno, key_snoc hks hm, g, cap', mi', by rw [hl]; exact hob2, ?_, by rw [hl, he]; exact hidx⟩
  rw [hl, flat_snoc]
  refine ⟨hown.1, ?_⟩
  rcases hown.2 with ⟨h', h''⟩ | ⟨g', c, cur, h', hb, hg, rest⟩
  · exact .inl ⟨h', h''⟩
  · simp only [Value.slice.injEq, Option.some.injEq, Addr.mk.injEq, and_true, true_and] at h'
    obtain ⟨rfl, rfl⟩ := h'
    exact .inr ⟨g, cap', cur, rfl, hb, hrow _ hg, rest⟩

theorem row_ne' {W : World} {S0 ob r n cap g n' cap' : Nat} {mi : Option Nat} {xs : List Value} (h : W.heap[ob]? = some (obBlock r n cap mi)) (ho : W.ownsRow S0 60 2 (.slice (some ⟨g, 0, none⟩) n' cap') n' xs) : g ≠ ob := by
  rintro rfl
  obtain ⟨_, cur, hg⟩ := row_block ho
  rw [h] at hg
  simp [obBlock] at hg
theorem below_added {S0 : Nat} {w w1 : World} {ob r : Nat} {o : Obj} {u : Value} (hge : S0 ≤ ob) (hr : S0 ≤ r) (hb : S0 ≤ w.heap.size) (hg : (w.alloc o).grownBy w1 (some r)) : Below S0 w (w1.setCell ⟨ob, 0, none⟩ u) :=
  (((Below.refl S0 w).alloc hb o).grown hg (by simp; omega) (fun k hk => by cases hk; exact hr)).setCell hge u

def AddPost (S0 : Nat) (w : World) (ob : Nat) (M : List Mem) (e : Ending) (w' : World) : Prop :=
  e = .returned (.tuple #[]) ∧ ObjIs S0 w' ob M ∧ Below S0 w w'

set_option maxHeartbeats 4000000 in
theorem add_none (S0 ob r cap : Nat) (M : List Mem) (m : Mem) (w : World) (hge : S0 ≤ ob) (hD : Dist (ents M)) (hks : ∀ k, k < M.length → (memAt M k).1.key.size ≤ maxLen) (hm : m.1.key.size ≤ maxLen) (hn : M.length < 1048576) (hno : findE (ents M) m.1.key = none)
    (hob : w.heap[ob]? = some (obBlock r M.length cap none)) (hown : w.ownsRow S0 60 2 (.slice (some ⟨r, 0, none⟩) M.length cap) M.length (flat M)) :
    Calls Try.prog 28 #[.pointer (some ⟨ob, 0, none⟩), .string m.1.key, .iface m.2.1 m.2.2] w fun e w' => AddPost S0 w ob (M ++ [m]) e w' := by
  obtain ⟨⟨key, text, num⟩, t, v⟩ := m
  simp only at hm hno ⊢
  obtain ⟨i0, hi, hz0, hz1, hz2⟩ := info_parts info60
  have hmq := mne_none
  have hr := row_ne hob hown
  have c0 := ob_cell0 hob
  have hb0 : S0 ≤ w.heap.size := Nat.le_of_lt (Nat.lt_of_le_of_lt hge (lt_of_block hob))
  have HALL := hid (And.intro hge (And.intro hD (And.intro hks (And.intro hm (And.intro hno hob)))))
  have HO := hid hown
  clear hge hD hks hm hno hob hown
  go_enter Try.func28, Try.ntmps28
  go_wp2_with (first
    | (at_builtin; refine wpList_append_own _ rfl (.tmp 10) (.tmp 14) 45 rfl S0 60 i0 _ 2 32 Try.underlying45 hi hz0 hz1 hz2 rfl (by decide) _ _ _ rfl (HO.out.alloc _) ⟨w.heap.size, 0, none⟩ 1 1 [.string key, .iface t v] rfl rfl (mem_new w key t v) (mem_one key t v) (by unfold maxLen; omega) (by omega) (by simp; omega) ?_; intro v' w1 hown' hgrow _; obtain ⟨g, cap', rfl, hob1⟩ := add_after HALL.out.2.2.2.2.2 hr hown' hgrow; have c01 := ob_cell0 hob1; have c11 := ob_cell1 hob1; have f01 := ob_free hob1 0; have HB := hid (And.intro hown' (And.intro hgrow hob1)); clear hown' hgrow hob1)
    | go_in)
  go_end0
  obtain ⟨hge, hD, hks, hm, hno, hob⟩ := HALL.out
  obtain ⟨hown', hgrow, hob1⟩ := HB.out
  have hg := row_ne' hob1 hown'
  exact ⟨rfl, ObjIs.added hge hD hks hm hno hown' (ob_set0 hob1 _ _ _) (fun cur hc => (heap_setCell_other _ _ _ _ hg).trans hc) (.inl rfl), below_added hge (row_block HO.out).1 hb0 hgrow⟩

/-- The index learns of the new key. -/
theorem idx_added {S0 : Nat} {w w1 : World} {ob r b g cap cap' : Nat} {M : List Mem} {e : Ent} {o : Obj} {D : DataW Unit} (hob : w.heap[ob]? = some (obBlock r M.length cap (some b)))
    (hown : w.ownsRow S0 60 2 (.slice (some ⟨r, 0, none⟩) M.length cap) M.length (flat M)) (hmap : w.ownsMap Try.prog 9 (plainElem Try.prog 3) b M.length D) (hI : IdxIs D (ents M)) (hn : M.length < 1048576) (hk : e.key.size ≤ maxLen) (hno : findE (ents M) e.key = none)
    (hg : (w.alloc o).grownBy w1 (some r)) : ∃ w2, (Instr.mapUpdate 56 (.map (some b)) (.string e.key) (.int .i64 ((M.length : Nat) : Int))).run Try.prog (w1.setCell ⟨ob, 0, none⟩ (.slice (some ⟨g, 0, none⟩) (M.length + 1) cap')).drew = .ok () w2 ∧
      (w1.setCell ⟨ob, 0, none⟩ (.slice (some ⟨g, 0, none⟩) (M.length + 1) cap')).grownBy w2 (some b) ∧ ∃ D : DataW Unit, w2.ownsMap Try.prog 9 (plainElem Try.prog 3) b (M.length + 1) D ∧ IdxIs D (ents M ++ [e]) := by
  obtain ⟨_, cur, hcur⟩ := row_block hown
  have hbr : b ≠ r := map_ne hcur hmap
  have hbo : b ≠ ob := map_ne hob hmap
  have hmap1 : (w1.setCell ⟨ob, 0, none⟩ (.slice (some ⟨g, 0, none⟩) (M.length + 1) cap')).ownsMap Try.prog 9 (plainElem Try.prog 3) b M.length D :=
    ((hmap.alloc o).kept hg (by simpa using hbr)).kept (row := some ob) ⟨rfl, rfl, rfl, by simp, fun k hk hne => heap_setCell_other _ _ _ _ (fun e => hne (by rw [e]))⟩ (by simpa using hbo)
  obtain ⟨w2, hrun, hown2, hg2⟩ := hmap1.drew.update law9 Try.underlying56 (by unfold maxLen; omega) (WideMaps.keyOf_string_mk Try.underlying9 hk) (plainElem_int (H := Unit) Try.underlying3 (a := ((M.length : Nat) : Int)) (WalkArith.wf_i64 (by omega)))
  refine ⟨w2, hrun, ⟨hg2.os, hg2.tape, hg2.output, hg2.size, hg2.block⟩, _, hown2, ?_⟩
  have := IdxIs.snoc hI hmap.isMap hno
  rwa [ents_length] at this

set_option maxHeartbeats 4000000 in
theorem add_some (S0 ob r cap b : Nat) (D : DataW Unit) (M : List Mem) (m : Mem) (w : World) (hge : S0 ≤ ob) (hD : Dist (ents M)) (hks : ∀ k, k < M.length → (memAt M k).1.key.size ≤ maxLen) (hm : m.1.key.size ≤ maxLen) (hn : M.length < 1048576) (hno : findE (ents M) m.1.key = none)
    (hob : w.heap[ob]? = some (obBlock r M.length cap (some b))) (hown : w.ownsRow S0 60 2 (.slice (some ⟨r, 0, none⟩) M.length cap) M.length (flat M)) (hb : S0 ≤ b) (hmap : w.ownsMap Try.prog 9 (plainElem Try.prog 3) b M.length D) (hI : IdxIs D (ents M)) :
    Calls Try.prog 28 #[.pointer (some ⟨ob, 0, none⟩), .string m.1.key, .iface m.2.1 m.2.2] w fun e w' => AddPost S0 w ob (M ++ [m]) e w' := by
  obtain ⟨⟨key, text, num⟩, t, v⟩ := m
  simp only at hm hno ⊢
  obtain ⟨i0, hi, hz0, hz1, hz2⟩ := info_parts info60
  have hmq := mne_some
  have hr := row_ne hob hown
  have c0 := ob_cell0 hob
  have hb0 : S0 ≤ w.heap.size := Nat.le_of_lt (Nat.lt_of_le_of_lt hge (lt_of_block hob))
  have HALL := hid (And.intro hge (And.intro hD (And.intro hks (And.intro hm (And.intro hno hob)))))
  have HO := hid hown
  have HMM := hid (And.intro hmap hI)
  clear hge hD hks hm hno hob hown hmap hI
  go_enter Try.func28, Try.ntmps28
  go_wp2_with (first
    | (at_builtin; refine wpList_append_own _ rfl (.tmp 10) (.tmp 14) 45 rfl S0 60 i0 _ 2 32 Try.underlying45 hi hz0 hz1 hz2 rfl (by decide) _ _ _ rfl (HO.out.alloc _) ⟨w.heap.size, 0, none⟩ 1 1 [.string key, .iface t v] rfl rfl (mem_new w key t v) (mem_one key t v) (by unfold maxLen; omega) (by omega) (by simp; omega) ?_; intro v' w1 hown' hgrow _; obtain ⟨g, cap', rfl, hob1⟩ := add_after HALL.out.2.2.2.2.2 hr hown' hgrow; have c01 := ob_cell0 hob1; have c11 := ob_cell1 hob1; have f01 := ob_free hob1 0; obtain ⟨w2, hrun, hw2⟩ := idx_added (g := g) (cap' := cap') (e := ⟨key, text, num⟩) HALL.out.2.2.2.2.2 HO.out HMM.out.1 HMM.out.2 hn HALL.out.2.2.2.1 HALL.out.2.2.2.2.1 hgrow; have HB := hid (And.intro hown' (And.intro hgrow (And.intro hob1 hw2))); clear hown' hgrow hob1 hw2)
    | go_in)
  go_region
  go_end0
  obtain ⟨hge, hD, hks, hm, hno, hob⟩ := HALL.out
  obtain ⟨hown', hgrow, hob1, hg2, D', hmap2, hI2⟩ := HB.out
  have hg := row_ne' hob1 hown'
  have hbr := map_ne hob HMM.out.1
  obtain ⟨_, cur, hcur⟩ := row_block hown'
  have hob2 := ob_set0 hob1 g (M.length + 1) cap'
  have e1 : w2.heap[ob]? = _ := (hg2.block ob (lt_of_block hob2) (by simpa using hbr.symm)).trans hob2
  have hbg : b ≠ g := by
    rintro rfl
    have hm1 := (HMM.out.1.alloc (.cells #[.string key, .iface t v] 60)).kept hgrow (by have := map_ne (row_block HO.out).2.choose_spec HMM.out.1; simpa [Value.ownBlock, Act.eval] using this)
    exact map_ne hcur hm1 rfl
  refine ⟨rfl, ObjIs.added hge hD hks hm hno hown' e1 (fun cur hc => ?_) (.inr ⟨b, D', rfl, hb, hmap2, hI2⟩), ?_⟩
  · have e2 := (heap_setCell_other w1 ⟨ob, 0, none⟩ g (.slice (some ⟨g, 0, none⟩) (M.length + 1) cap') hg).trans hc
    exact (hg2.block g (lt_of_block e2) (by simpa using hbg.symm)).trans e2
  · exact (below_added hge (row_block HO.out).1 hb0 hgrow).grown hg2 (Nat.le_of_lt (Nat.lt_of_le_of_lt hge (lt_of_block hob2))) (fun k hk => by cases hk; exact hb)

theorem add_any (S0 ob : Nat) (M : List Mem) (m : Mem) (w : World) (h : ObjIs S0 w ob M) (hm : m.1.key.size ≤ maxLen) (hn : M.length < 1048576) (hno : findE (ents M) m.1.key = none) :
    Calls Try.prog 28 #[.pointer (some ⟨ob, 0, none⟩), .string m.1.key, .iface m.2.1 m.2.2] w fun e w' => AddPost S0 w ob (M ++ [m]) e w' := by
  obtain ⟨hge, hD, hks, r, cap, mi, hob, hown, rfl | ⟨b, D, rfl, hb, hmap, hI⟩⟩ := h
  · exact add_none S0 ob r cap M m w hge hD hks hm hn hno hob hown
  · exact add_some S0 ob r cap b D M m w hge hD hks hm hn hno hob hown hb hmap hI

theorem key_set {M : List Mem} {m : Mem} {i : Nat} (h : ∀ k, k < M.length → (memAt M k).1.key.size ≤ maxLen) (hm : m.1.key.size ≤ maxLen) : ∀ k, k < (M.set i m).length → (memAt (M.set i m) k).1.key.size ≤ maxLen := by
  intro k hk
  rw [memAt_eq hk, List.getElem_set]
  split
  · exact hm
  · rename_i hne
    have hk' : k < M.length := by simpa using hk
    rw [← memAt_eq hk']; exact h k hk'

/-- A member's value is set. -/
theorem ObjIs.set {S0 : Nat} {w : World} {ob r cap i : Nat} {M : List Mem} {m : Mem} {mi : Option Nat} (hge : S0 ≤ ob) (hD : Dist (ents M)) (hks : ∀ k, k < M.length → (memAt M k).1.key.size ≤ maxLen) (hm : m.1.key.size ≤ maxLen) (hi : findE (ents M) m.1.key = some i)
    (hob : w.heap[ob]? = some (obBlock r M.length cap mi)) (hown : w.ownsRow S0 60 2 (.slice (some ⟨r, 0, none⟩) M.length cap) M.length (flat M))
    (hmi : mi = none ∨ ∃ b, ∃ D : DataW Unit, mi = some b ∧ S0 ≤ b ∧ w.ownsMap Try.prog 9 (plainElem Try.prog 3) b M.length D ∧ IdxIs D (ents M)) :
    ObjIs S0 (w.setCell ⟨r, i * 2 + 1, none⟩ (.iface m.2.1 m.2.2)) ob (M.set i m) := by
  obtain ⟨hil, hkey, _⟩ := findE_some hi
  have hil' : i < M.length := by rwa [ents_length] at hil
  have hkey' : (M[i]).1.key = m.1.key := by simpa [ents] using hkey
  have hr := row_ne hob hown
  have hl : (M.set i m).length = M.length := by simp
  have he : ents (M.set i m) = (ents M).set i m.1 := by simp [ents]
  obtain ⟨hst, hgr⟩ := hown.stored (i * 2 + 1) (.iface m.2.1 m.2.2)
  rw [flat_set M i m hil' hkey'] at hst
  refine ⟨hge, by rw [he]; exact hD.set hi, key_set hks hm, r, cap, mi, ?_, by rw [hl]; exact hst, ?_⟩
  · rw [hl]
    exact (heap_setCell_other _ _ _ _ (fun e => hr e.symm)).trans hob
  · rcases hmi with h | ⟨b, D, hb1, hb, hmap, hI⟩
    · exact .inl h
    · refine .inr ⟨b, D, hb1, hb, ?_, by rw [he]; exact hI.set hi⟩
      rw [hl]
      exact hmap.kept hgr (by have := map_ne (row_block hown).2.choose_spec hmap; simpa using this)

set_option maxHeartbeats 4000000 in
theorem put_any (S0 ob : Nat) (M : List Mem) (m : Mem) (w : World) (h : ObjIs S0 w ob M) (hm : m.1.key.size ≤ maxLen) (hn : M.length < 1048576) :
    Calls Try.prog 21 #[.pointer (some ⟨ob, 0, none⟩), .string m.1.key, .iface m.2.1 m.2.2] w fun e w' => AddPost S0 w ob (putM M m) e w' := by
  have hf : Hid (findE (ents M) m.1.key = findE (ents M) m.1.key) := rfl
  have HO := hid h
  clear h
  have HM := hid hm
  clear hm
  generalize hfe : findE (ents M) m.1.key = fe at hf
  have HF := hid hfe
  clear hfe hf
  cases fe with
  | none =>
    have e1 : found (ents M) m.1.key = .tuple #[.int .i64 0, .bool false] := by rw [found, HF.out]; rfl
    have E1 := hid e1
    clear e1
    go_enter Try.func21, Try.ntmps21
    go_wp2_with (first
      | (go_at_call 20; refine (search_any S0 ob M m.1.key w HM.out (by omega) HO.out).mono ?_; rintro e w1 ⟨he, ho, hb⟩; rw [E1.out] at he; subst he; have HO1 := hid ho; have HB1 := hid hb; clear ho hb)
      | (go_at_call 28; refine (add_any S0 ob M m w1 HO1.out HM.out hn HF.out).mono ?_; rintro e w2 ⟨rfl, ho, hb⟩; have HO2 := hid ho; have HB2 := hid hb; clear ho hb))
    go_end0
    refine ⟨rfl, ?_, HB1.out.trans HB2.out⟩
    unfold putM
    rw [HF.out]
    exact HO2.out
  | some i =>
    have e1 : found (ents M) m.1.key = .tuple #[.int .i64 (i : Int), .bool true] := by rw [found, HF.out]; rfl
    have E1 := hid e1
    have hil : i < M.length := by have := (findE_some HF.out).1; rwa [ents_length] at this
    clear e1
    go_enter Try.func21, Try.ntmps21
    go_wp2_with (go_at_call 20; refine (search_any S0 ob M m.1.key w HM.out (by omega) HO.out).mono ?_; rintro e w1 ⟨he, ho, hb⟩; rw [E1.out] at he; subst he; obtain ⟨hge, hD, hks, r, cap, mi, hob, hown, hmi⟩ := ho; have c0 := ob_cell0 hob; have c1 := (hown.cellAt (i * 2 + 1) (by omega)).trans (flat_val M i hil); have f1 := hown.frozenAt (i * 2 + 1); have HA := hid (And.intro hge (And.intro hD (And.intro hks (And.intro hob (And.intro hown (And.intro hmi hb)))))); clear hge hD hks hob hown hmi hb)
    refine bodyPost_ret (v := .tuple #[]) (by simp [results, Try.results21, go_sem]) rfl ?_
    obtain ⟨hge, hD, hks, hob, hown, hmi, hb⟩ := HA.out
    refine ⟨rfl, ?_, hb.setCell (row_block hown).1 _⟩
    unfold putM
    rw [HF.out]
    exact ObjIs.set hge hD hks HM.out HF.out hob hown hmi
end Go.Proofs.Qxb6613416a
