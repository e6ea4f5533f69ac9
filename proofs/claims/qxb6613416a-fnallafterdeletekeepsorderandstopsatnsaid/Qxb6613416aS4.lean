import Derived.Test.Qxb6613416aS3
namespace Go.Proofs.Qxb6613416a
open Go.RowKit Go.Maps Go.Shelf

attribute [local go_sem] Oper.semAt_some

theorem info9 : (Try.prog.info? 9).map (fun i => (i.zero, i.size, i.bytes)) = some (some (.string ByteArray.empty), 1, 16) := by kernel_rfl
theorem info3 : (Try.prog.info? 3).map (fun i => (i.zero, i.size, i.bytes)) = some (some (.int .i64 0), 1, 8) := by kernel_rfl
theorem zzGiven_is (x : Ent) (w : World) : Calls Try.prog 17 #[givenV x] w fun r w' => r = .returned (.tuple #[.string x.text, .int .i64 (kindI x)]) ∧ w' = w := zzGiven_any x w
theorem feq (f : Fn) (a b : Array Value) (w : World) : (binOp .eql 48 (.func f a b) .nilFunc).run Try.prog w = .ok (.bool false) w := by kernel_rfl

/-- Each variable is stored back as it stands. -/
theorem St.same {n₀ B : Nat} {W : World} {v1 v2 v3 : Value} {n n2 n3 : Nat} {xs1 xs2 xs3 : List Value} (h : St n₀ B W v1 v2 v3 n xs1 n2 xs2 n3 xs3) :
    St n₀ B (((W.setCell ⟨B, 0, none⟩ v1).setCell ⟨B + 1, 0, none⟩ v2).setCell ⟨B + 1 + 1, 0, none⟩ v3) v1 v2 v3 n xs1 n2 xs2 n3 xs3 := by
  have s1 : St n₀ B (W.setCell ⟨B, 0, none⟩ v1) v1 v2 v3 n xs1 n2 xs2 n3 xs3 :=
    ⟨h.ge, h.b1.set v1, h.b2.other (by omega) _, h.b3.other (by omega) _, h.r1.kept (grownBy_setCell' W B v1) (.inr (h.b1.not_row (by decide) h.r1).symm), h.r2.kept (grownBy_setCell' W B v1) (.inr (h.b1.not_row (by decide) h.r2).symm), h.r3.kept (grownBy_setCell' W B v1) (.inr (h.b1.not_row (by decide) h.r3).symm), h.ne⟩
  have s2 : St n₀ B ((W.setCell ⟨B, 0, none⟩ v1).setCell ⟨B + 1, 0, none⟩ v2) v1 v2 v3 n xs1 n2 xs2 n3 xs3 :=
    ⟨h.ge, s1.b1.other (by omega) _, s1.b2.set v2, s1.b3.other (by omega) _, s1.r1.kept (grownBy_setCell' _ (B + 1) v2) (.inr (s1.b2.not_row (by decide) s1.r1).symm), s1.r2.kept (grownBy_setCell' _ (B + 1) v2) (.inr (s1.b2.not_row (by decide) s1.r2).symm), s1.r3.kept (grownBy_setCell' _ (B + 1) v2) (.inr (s1.b2.not_row (by decide) s1.r3).symm), h.ne⟩
  exact ⟨h.ge, s2.b1.other (by omega) _, s2.b2.other (by omega) _, s2.b3.set v3, s2.r1.kept (grownBy_setCell' _ (B + 2) v3) (.inr (s2.b3.not_row (by decide) s2.r1).symm), s2.r2.kept (grownBy_setCell' _ (B + 2) v3) (.inr (s2.b3.not_row (by decide) s2.r2).symm), s2.r3.kept (grownBy_setCell' _ (B + 2) v3) (.inr (s2.b3.not_row (by decide) s2.r3).symm), h.ne⟩

theorem Trio.snoc {n₀ B : Nat} {L : List Ent} {x : Ent} {W : World} {v1 v2 v3 : Value} (h : St n₀ B W v1 v2 v3 (L.length + 1) ((L.map fun e => .string e.key) ++ [.string x.key]) (L.length + 1) ((L.map fun e => .string e.text) ++ [.string x.text]) (L.length + 1) ((L.map fun e => .int .i64 (kindI e)) ++ [.int .i64 (kindI x)])) : Trio n₀ B (L ++ [x]) W := by
  refine ⟨v1, v2, v3, ?_⟩
  simpa using h

set_option maxRecDepth 100000 in
set_option maxHeartbeats 8000000 in
theorem zzAll_in (ob : Nat) (M : List Mem) (w : World) (h : Ready w ob M) :
    CallsIn Fence.wide 6 Try.prog 8 #[.pointer (some ⟨ob, 0, none⟩)] w fun e W' => ∃ v1 v2 v3, e = .returned (.tuple #[v1, v2, v3]) ∧
      St w.heap.size w.heap.size W' v1 v2 v3 M.length ((ents M).map fun e => .string e.key) M.length ((ents M).map fun e => .string e.text) M.length ((ents M).map fun e => .int .i64 (kindI e)) ∧ Below w.heap.size w W' := by
  have h1 : 1 ≤ 6 := by omega
  obtain ⟨i0, hi, hz0, hz1, hz2⟩ := info_parts info9
  obtain ⟨j0, hj, hy0, hy1, hy2⟩ := info_parts info3
  have hfe := feq
  have hlen := h.len
  have HRD := hid h
  clear h
  refine callsIn_of_wp_marks Try.func8 rfl trivial ?_ rfl
  simp only [Try.ntmps8, List.size_toArray, List.length_cons, List.length_nil, Nat.reduceAdd, Nat.reduceSub, Array.replicate_succ, Array.replicate_zero, List.push_toArray, List.append_toArray, List.nil_append, List.cons_append]
  gi_wp2_with (first | (refine ⟨trivial, ?_⟩; gi_at_call 16; refine (all_in _ _ _).mono ?_; rintro e w' ⟨rfl, rfl⟩) | (gi_at_call 16; refine (all_in _ _ _).mono ?_; rintro e w' ⟨rfl, rfl⟩))
  have hB0 : Below w.heap.size w ((((w.alloc (.cells #[.slice none 0 0] 27)).alloc (.cells #[.slice none 0 0] 27)).alloc (.cells #[.slice none 0 0] 28)).alloc (.cells #[.pointer (some ⟨ob, 0, none⟩)] 25)) :=
    ((((Below.refl _ w).alloc (Nat.le_refl _) _).alloc (by simp) _).alloc (by simp; omega) _).alloc (by simp; omega) _
  have hBo := (Boxed.new (((w.alloc (.cells #[.slice none 0 0] 27)).alloc (.cells #[.slice none 0 0] 27)).alloc (.cells #[.slice none 0 0] 28)) 25 (.pointer (some ⟨ob, 0, none⟩))).cell
  simp only [World.size_alloc] at hBo
  refine wpIn_rangeFunc_ownG rfl h1 (gf := 25) (lb := #[.pointer (some ⟨w.heap.size + 1 + 1 + 1, 0, none⟩)]) rfl trivial (enters_of Try.func25 (by kernel_rfl) rfl)
    (all_stops 5 (by omega) (w.heap.size + 1 + 1 + 1) ob M w _ HRD.out hBo hB0) belowK_t (belowK_b (by simp; omega)) (Below.refl _ _) (fun _ => rfl)
    (fun pre W => Trio w.heap.size w.heap.size pre W ∧ Below w.heap.size w W)
    (fun _ _ _ => False)
    (OwnFrom.and (Own.from (Trio.own _ _) _) (ownFrom_below (Nat.le_refl _) (by simp; omega)))
    (fun _ _ _ _ _ hs _ _ => hs)
    ⟨Trio.start w _, hB0⟩
    (fun x => { tmps := #[.pointer (some ⟨ob, 0, none⟩), undef, .pointer (some ⟨w.heap.size, 0, none⟩), .pointer (some ⟨w.heap.size + 1, 0, none⟩), .pointer (some ⟨w.heap.size + 1 + 1, 0, none⟩), .func (.func 25) #[] #[.pointer (some ⟨w.heap.size + 1 + 1 + 1, 0, none⟩)], .string x.key, givenV x, undef, undef, .pointer (some ⟨ob, 0, none⟩), .func (.func 25) #[] #[.pointer (some ⟨w.heap.size + 1 + 1 + 1, 0, none⟩)], .func (.func 25) #[] #[.pointer (some ⟨w.heap.size + 1 + 1 + 1, 0, none⟩)], .bool false, .func (.func 25) #[] #[.pointer (some ⟨w.heap.size + 1 + 1 + 1, 0, none⟩)], .string x.key, givenV x, undef, undef, undef, undef, undef, undef, undef, undef, undef, undef, undef, undef, undef, undef, undef, undef, undef, undef, undef, undef], defers := [] }) ?assign ?body ?done ?stop
  case assign =>
    intro l x W K hK
    gi_wp2
    exact hK
  case body =>
    rintro l pre x W ⟨⟨v1, v2, v3, hS⟩, hB⟩ hlt
    have c1 := hS.b1.cell
    have HS := hid hS
    have HB := hid hB
    clear hS hB
    gi_wp2_with (first
      | (refine ⟨trivial, ?_⟩; gi_at_call 17; refine (CallsIn.inRound l (callsIn_wide.2 (zzGiven_is x _))).mono ?_; rintro e W ⟨rfl, rfl⟩)
      | (gi_at_builtin; refine wpListIn_append_own_at _ rfl (.tmp 22) (.tmp 24) 27 rfl w.heap.size 9 i0 _ 1 16 Try.underlying27 hi hz0 hz1 hz2 rfl (by decide) v1 pre.length _ rfl (HS.out.r1.alloc _) ⟨W.heap.size, 0, none⟩ 1 1 [.string x.key] rfl rfl (cell_one_new _ _ _) (by simp [Value.oneCell']) (by unfold maxLen; omega) (by omega) (by have := HB.out.size; simp; omega) ?_; intro v1' w1 hown1 hg1 _ hat1; obtain ⟨g1, cap1, rfl⟩ := ownsRow_succ hown1; obtain ⟨hv1, hS1, hk1, hb1⟩ := HS.out.app1 hown1 hg1 hat1; have hc1 := hv1.cell; have hf1 := hv1.frozen; have c2 := hS1.b2.cell; have HS1 := hid (And.intro hS1 (And.intro hk1 hb1)); clear hown1 hg1 hat1 hv1 hS1 hk1 hb1)
      | (gi_at_builtin; refine wpListIn_append_own_at _ rfl (.tmp 26) (.tmp 28) 27 rfl w.heap.size 9 i0 _ 1 16 Try.underlying27 hi hz0 hz1 hz2 rfl (by decide) v2 pre.length _ rfl (HS1.out.1.r2.alloc _) ⟨w1.heap.size, 0, none⟩ 1 1 [.string x.text] rfl rfl (by simpa using cell_one_new (w1.setCell ⟨w.heap.size, 0, none⟩ _) _ _) (by simp [Value.oneCell']) (by unfold maxLen; omega) (by omega) (by have := HS1.out.1.size; simp at this ⊢; omega) ?_; intro v2' w2 hown2 hg2 _ hat2; obtain ⟨g2, cap2, rfl⟩ := ownsRow_succ hown2; obtain ⟨hv2, hS2, hk2, hb2⟩ := HS1.out.1.app2 hown2 hg2 hat2; have hc2 := hv2.cell; have hf2 := hv2.frozen; have c3 : (w2.setCell _ _).cell? ⟨w.heap.size + 1 + 1, 0, none⟩ = some v3 := hS2.b3.cell; have HS2 := hid (And.intro hS2 (And.intro hk2 hb2)); clear hown2 hg2 hat2 hv2 hS2 hk2 hb2)
      | (gi_at_builtin; refine wpListIn_append_own_at _ rfl (.tmp 30) (.tmp 32) 28 rfl w.heap.size 3 j0 _ 1 8 Try.underlying28 hj hy0 hy1 hy2 rfl (by decide) v3 pre.length _ rfl (HS2.out.1.r3.alloc _) ⟨w2.heap.size, 0, none⟩ 1 1 [.int .i64 (kindI x)] rfl rfl (by simpa using cell_one_new (w2.setCell ⟨w.heap.size + 1, 0, none⟩ _) _ _) (by simp [Value.oneCell']) (by unfold maxLen; omega) (by omega) (by have := HS2.out.1.size; simp at this ⊢; omega) ?_; intro v3' w3 hown3 hg3 _ _; obtain ⟨g3, cap3, rfl⟩ := ownsRow_succ hown3; obtain ⟨hv3, hS3, hk3, hb3⟩ := HS2.out.1.app3 hown3 hg3; have hc3 : w3.cell? ⟨w.heap.size + 1 + 1, 0, none⟩ = some v3 := hv3.cell; have hf3 : w3.frozen? ⟨w.heap.size + 1 + 1, 0, none⟩ = false := hv3.frozen; have HS3 := hid (And.intro hS3 (And.intro hk3 hb3)); clear hown3 hg3 hv3 hS3 hk3 hb3))
    obtain ⟨_, hk1, hb1⟩ := HS1.out
    obtain ⟨_, hk2, hb2⟩ := HS2.out
    obtain ⟨hS3, hk3, hb3⟩ := HS3.out
    exact ⟨((hk1.trans hk2).trans hk3).from _, (hb1.trans hb2).trans hb3, Trio.snoc hS3, HB.out.trans ((hb1.trans hb2).trans hb3)⟩
  case done =>
    rintro D ys W hD rfl ⟨⟨v1, v2, v3, hS⟩, hB⟩ hK
    have c1 := hS.b1.cell
    have c2 := hS.b2.cell
    have c3 : W.cell? ⟨w.heap.size + 1 + 1, 0, none⟩ = some v3 := hS.b3.cell
    have f1 := hS.b1.frozen
    have f2 := hS.b2.frozen
    have f3 : W.frozen? ⟨w.heap.size + 1 + 1, 0, none⟩ = false := hS.b3.frozen
    obtain ⟨a1, p1, e1, _⟩ := row_shape hS.r1
    obtain ⟨a2, p2, e2, _⟩ := row_shape hS.r2
    obtain ⟨a3, p3, e3, _⟩ := row_shape hS.r3
    subst e1 e2 e3
    have HS := hid hS
    have HB := hid hB
    have HK := hid hK
    have hmo : Try.prog.follows Departure.mixedOrders = true := by kernel_rfl
    clear hS hB hK
    gi_wp2
    gi_region
    gi_wp2
    have hS3 := HS.out.same
    have hB3 := ((HB.out.setCell (p := ⟨w.heap.size, 0, none⟩) (Nat.le_refl _) (.slice a1 (ents M).length p1)).setCell (p := ⟨w.heap.size + 1, 0, none⟩) (Nat.le_succ _) (.slice a2 (ents M).length p2)).setCell (p := ⟨w.heap.size + 1 + 1, 0, none⟩) (by show w.heap.size ≤ w.heap.size + 1 + 1; omega) (.slice a3 (ents M).length p3)
    have hK3 := (((KeepsOthers.setCell W ⟨w.heap.size, 0, none⟩ (.slice a1 (ents M).length p1)).trans (KeepsOthers.setCell _ ⟨w.heap.size + 1, 0, none⟩ (.slice a2 (ents M).length p2))).trans (KeepsOthers.setCell _ ⟨w.heap.size + 1 + 1, 0, none⟩ (.slice a3 (ents M).length p3))).same D _ HK.out rfl
    generalize hWf : ((W.setCell ⟨w.heap.size, 0, none⟩ (.slice a1 (ents M).length p1)).setCell ⟨w.heap.size + 1, 0, none⟩ (.slice a2 (ents M).length p2)).setCell ⟨w.heap.size + 1 + 1, 0, none⟩ (.slice a3 (ents M).length p3) = Wf at *
    have hS4 : St w.heap.size w.heap.size Wf.drew _ _ _ _ _ _ _ _ _ := ⟨hS3.ge, hS3.b1, hS3.b2, hS3.b3, hS3.r1, hS3.r2, hS3.r3, hS3.ne⟩
    have hK4 : Wf.drew.heap[D]? = some (.deferred (some [])) := hK3
    have hS5 := hS4.kept (grownBy_putObj' Wf.drew D (.deferred none)) (fun r e => by cases e; exact ⟨_, hK4, rfl⟩)
    have r1 := hS5.b1.cell
    have r2 := hS5.b2.cell
    have r3 := hS5.b3.cell
    refine ⟨by simp, .inl ⟨_, _, rfl, run_takeDeferred hK4, ?_⟩⟩
    refine ⟨.tuple #[.slice a1 (ents M).length p1, .slice a2 (ents M).length p2, .slice a3 (ents M).length p3], ?_, _, _, _, rfl, by rw [ents_length] at hS5 ⊢; exact hS5, hB3.drew.trans (belowK_b (w := w) (Nat.le_refl _) _ D _ _ (by simp at hD; omega) hK4 rfl rfl)⟩
    simp [results, Try.f8, go_sem, r1, r2, r3]
  case stop =>
    rintro D c pre W _ _ h _
    exact h.elim
end Go.Proofs.Qxb6613416a
