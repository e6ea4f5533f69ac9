import Derived.Test.Qxb6613416aS5
namespace Go.Proofs.Qxb6613416a
open Go.RowKit Go.Maps Go.Shelf

attribute [local go_sem] Oper.semAt_some

theorem Trio.start' (w : World) (o0 o : Obj) : Trio (w.heap.size + 1) (w.heap.size + 1) [] (((((w.alloc o0).alloc (.cells #[.slice none 0 0] 27)).alloc (.cells #[.slice none 0 0] 27)).alloc (.cells #[.slice none 0 0] 28)).alloc o) := by
  have := Trio.start (w.alloc o0) o
  rwa [World.size_alloc] at this
theorem Ready.alloc {w : World} {ob : Nat} {M : List Mem} (h : Ready w ob M) (o : Obj) : Ready (w.alloc o) ob M := by
  obtain ⟨h1, ⟨r, cap, h2, h3⟩, h4⟩ := h
  have hb : Below w.heap.size w (w.alloc o) := (Below.refl _ w).alloc (Nat.le_refl _) o
  exact ⟨h1, ⟨r, cap, cell_on hb h2, fun k hk => ⟨cell_on hb (h3 k hk).1, cell_on hb (h3 k hk).2⟩⟩, fun k hk => (h4 k hk).alloc o⟩

def UpI (B : Nat) (m : Int) (pre : List Ent) (W : World) : Prop := Trio B B pre W ∧ pre.length ≤ m.toNat
def UpX (B : Nat) (m : Int) (pre : List Ent) (W : World) : Prop := ∃ ini x, pre = ini ++ [x] ∧ UpI B m ini W ∧ m ≤ (ini.length : Int)
theorem UpI.own (B : Nat) (m : Int) : Own (UpI B m) := by
  rintro L X Y row ⟨h1, h3⟩ hg hrow
  exact ⟨Trio.own _ _ L X Y row h1 hg hrow, h3⟩
theorem UpX.own (B : Nat) (m : Int) : Own (UpX B m) := by
  rintro L X Y row ⟨ini, x, e, h, hm⟩ hg hrow
  exact ⟨ini, x, e, UpI.own B m ini X Y row h hg hrow, hm⟩
theorem upI_done {B : Nat} {W : World} {m : Int} {M : List Mem} (h : UpI B m (ents M) W) : Trio B B ((ents M).take m.toNat) W := by
  rw [List.take_of_length_le h.2]; exact h.1
theorem upX_done {B : Nat} {W : World} {m : Int} {M : List Mem} {k : Nat} (hk : k ≤ M.length) (h : UpX B m ((ents M).take k) W) : Trio B B ((ents M).take m.toNat) W := by
  obtain ⟨ini, x, e, hI, hm⟩ := h
  have hl := congrArg List.length e
  rw [List.length_take_of_le (by rw [ents_length]; exact hk)] at hl
  simp at hl
  have hlen : ini.length = m.toNat := by have := hI.2; omega
  have : ini = (ents M).take m.toNat := by
    have e2 := congrArg (List.take ini.length) e
    rw [List.take_append_of_le_length (Nat.le_refl _), List.take_length, List.take_take, Nat.min_eq_left (by omega)] at e2
    rw [← e2, hlen]
  rw [← this]; exact hI.1

def UpPost (w : World) (L : List Ent) (e : Ending) (W' : World) : Prop :=
  ∃ v1 v2 v3, e = .returned (.tuple #[v1, v2, v3]) ∧
      St (w.heap.size + 1) (w.heap.size + 1) W' v1 v2 v3 L.length (L.map fun e => .string e.key) L.length (L.map fun e => .string e.text) L.length (L.map fun e => .int .i64 (kindI e)) ∧ Below w.heap.size w W'

set_option maxRecDepth 100000 in
set_option maxHeartbeats 8000000 in
theorem upTo_in (ob : Nat) (M : List Mem) (m : Int) (w : World) (h : Ready w ob M) :
    CallsIn Fence.wide 6 Try.prog 13 #[.pointer (some ⟨ob, 0, none⟩), .int .i64 m] w fun e W' => UpPost w ((ents M).take m.toNat) e W' := by
  have h1 : 1 ≤ 6 := by omega
  obtain ⟨i0, hi, hz0, hz1, hz2⟩ := info_parts info9
  obtain ⟨j0, hj, hy0, hy1, hy2⟩ := info_parts info3
  have hfe := feq
  have hlen := h.len
  have HRD := hid (h.alloc (.cells #[.int .i64 m] 3))
  clear h
  refine callsIn_of_wp_marks Try.func13 rfl trivial ?_ rfl
  simp only [Try.ntmps13, List.size_toArray, List.length_cons, List.length_nil, Nat.reduceAdd, Nat.reduceSub, Array.replicate_succ, Array.replicate_zero, List.push_toArray, List.append_toArray, List.nil_append, List.cons_append]
  gi_wp2_with (first | (refine ⟨trivial, ?_⟩; gi_at_call 16; refine (all_in _ _ _).mono ?_; rintro e w' ⟨rfl, rfl⟩) | (gi_at_call 16; refine (all_in _ _ _).mono ?_; rintro e w' ⟨rfl, rfl⟩))
  have hB0 : Below (w.alloc (.cells #[.int .i64 m] 3)).heap.size (w.alloc (.cells #[.int .i64 m] 3)) (((((w.alloc (.cells #[.int .i64 m] 3)).alloc (.cells #[.slice none 0 0] 27)).alloc (.cells #[.slice none 0 0] 27)).alloc (.cells #[.slice none 0 0] 28)).alloc (.cells #[.pointer (some ⟨ob, 0, none⟩)] 25)) :=
    ((((Below.refl _ _).alloc (Nat.le_refl _) _).alloc (by simp) _).alloc (by simp) _).alloc (by simp) _
  have hBo := (Boxed.new ((((w.alloc (.cells #[.int .i64 m] 3)).alloc (.cells #[.slice none 0 0] 27)).alloc (.cells #[.slice none 0 0] 27)).alloc (.cells #[.slice none 0 0] 28)) 25 (.pointer (some ⟨ob, 0, none⟩))).cell
  have hBn := (Boxed.new w 3 (.int .i64 m)).cell
  simp only [World.size_alloc] at hBo
  refine wpIn_rangeFunc_ownG rfl h1 (gf := 25) (lb := #[.pointer (some ⟨w.heap.size + 1 + 1 + 1 + 1, 0, none⟩)]) rfl trivial (enters_of Try.func25 (by kernel_rfl) rfl)
    (all_stops 5 (by omega) (w.heap.size + 1 + 1 + 1 + 1) ob M (w.alloc (.cells #[.int .i64 m] 3)) _ HRD.out hBo hB0) belowK_t (belowK_b (by simp)) (Below.refl _ _) (fun _ => rfl)
    (fun pre W => UpI (w.heap.size + 1) m pre W ∧ Below (w.heap.size + 1) (w.alloc (.cells #[.int .i64 m] 3)) W)
    (fun c pre W => (c = .exit 0 ∧ UpX (w.heap.size + 1) m pre W) ∧ Below (w.heap.size + 1) (w.alloc (.cells #[.int .i64 m] 3)) W)
    (OwnFrom.and (Own.from (UpI.own _ _) _) (ownFrom_below (by simp) (by simp)))
    (fun c => OwnFrom.and (Own.from (fun s A B row hs hg hr => ⟨hs.1, UpX.own _ m s A B row hs.2 hg hr⟩) _) (ownFrom_below (by simp) (by simp)))
    ⟨⟨Trio.start' w _ _, Nat.zero_le _⟩, by rw [World.size_alloc] at hB0; exact hB0⟩
    (fun x => { tmps := #[.pointer (some ⟨ob, 0, none⟩), .int .i64 m, undef, .pointer (some ⟨w.heap.size, 0, none⟩), .pointer (some ⟨w.heap.size + 1, 0, none⟩), .pointer (some ⟨w.heap.size + 1 + 1, 0, none⟩), .pointer (some ⟨w.heap.size + 1 + 1 + 1, 0, none⟩), .func (.func 25) #[] #[.pointer (some ⟨w.heap.size + 1 + 1 + 1 + 1, 0, none⟩)], .string x.key, givenV x, undef, undef, .pointer (some ⟨ob, 0, none⟩), .func (.func 25) #[] #[.pointer (some ⟨w.heap.size + 1 + 1 + 1 + 1, 0, none⟩)], .func (.func 25) #[] #[.pointer (some ⟨w.heap.size + 1 + 1 + 1 + 1, 0, none⟩)], .bool false, .func (.func 25) #[] #[.pointer (some ⟨w.heap.size + 1 + 1 + 1 + 1, 0, none⟩)], .string x.key, givenV x, undef, undef, undef, undef, undef, undef, undef, undef, undef, undef, undef, undef, undef, undef, undef, undef, undef, undef, undef, undef, undef, undef, undef, undef], defers := [] }) ?assign ?body ?done ?stop
  case assign =>
    intro l x W K hK
    gi_wp2
    exact hK
  case body =>
    rintro l pre x W ⟨⟨⟨v1, v2, v3, hS⟩, hpl⟩, hB⟩ hlt
    have c1 := hS.b1.cell
    have cn : W.cell? ⟨w.heap.size, 0, none⟩ = some (.int .i64 m) := (hB.cell (Nat.lt_succ_self _)).trans hBn
    obtain ⟨a1, p1, e1, _⟩ := row_shape hS.r1
    subst e1
    by_cases hmm : m ≤ (pre.length : Int)
    · gi_wp2
      exact ⟨KeepsFrom.refl _ _, ⟨rfl, pre, x, rfl, ⟨⟨_, _, _, hS⟩, hpl⟩, hmm⟩, hB⟩
    have HS := hid hS
    have HB := hid hB
    have HX := hid hpl
    have hmm' : (pre.length : Int) < m := by omega
    clear hS hB hpl
    gi_wp2_with (first
      | (refine ⟨trivial, ?_⟩; gi_at_call 17; refine (CallsIn.inRound l (callsIn_wide.2 (zzGiven_is x _))).mono ?_; rintro e W ⟨rfl, rfl⟩)
      | (gi_at_builtin; refine wpListIn_append_own_at _ rfl (.tmp 28) (.tmp 30) 27 rfl (w.heap.size + 1) 9 i0 _ 1 16 Try.underlying27 hi hz0 hz1 hz2 rfl (by decide) (.slice a1 pre.length p1) pre.length _ rfl (HS.out.r1.alloc _) ⟨W.heap.size, 0, none⟩ 1 1 [.string x.key] rfl rfl (cell_one_new _ _ _) (by simp [Value.oneCell']) (by unfold maxLen; omega) (by omega) (by have := HB.out.size; simp at this ⊢; omega) ?_; intro v1' w1 hown1 hg1 _ hat1; obtain ⟨g1, cap1, rfl⟩ := ownsRow_succ hown1; obtain ⟨hv1, hS1, hk1, hb1⟩ := HS.out.app1 hown1 hg1 hat1; have hc1 := hv1.cell; have hf1 := hv1.frozen; have c2 := hS1.b2.cell; have HS1 := hid (And.intro hS1 (And.intro hk1 hb1)); clear hown1 hg1 hat1 hv1 hS1 hk1 hb1)
      | (gi_at_builtin; refine wpListIn_append_own_at _ rfl (.tmp 32) (.tmp 34) 27 rfl (w.heap.size + 1) 9 i0 _ 1 16 Try.underlying27 hi hz0 hz1 hz2 rfl (by decide) v2 pre.length _ rfl (HS1.out.1.r2.alloc _) ⟨w1.heap.size, 0, none⟩ 1 1 [.string x.text] rfl rfl (by simpa using cell_one_new (w1.setCell ⟨w.heap.size + 1, 0, none⟩ _) _ _) (by simp [Value.oneCell']) (by unfold maxLen; omega) (by omega) (by have := HS1.out.1.size; simp at this ⊢; omega) ?_; intro v2' w2 hown2 hg2 _ hat2; obtain ⟨g2, cap2, rfl⟩ := ownsRow_succ hown2; obtain ⟨hv2, hS2, hk2, hb2⟩ := HS1.out.1.app2 hown2 hg2 hat2; have hc2 := hv2.cell; have hf2 := hv2.frozen; have c3 : (w2.setCell _ _).cell? ⟨w.heap.size + 1 + 1 + 1, 0, none⟩ = some v3 := hS2.b3.cell; have HS2 := hid (And.intro hS2 (And.intro hk2 hb2)); clear hown2 hg2 hat2 hv2 hS2 hk2 hb2)
      | (gi_at_builtin; refine wpListIn_append_own_at _ rfl (.tmp 36) (.tmp 38) 28 rfl (w.heap.size + 1) 3 j0 _ 1 8 Try.underlying28 hj hy0 hy1 hy2 rfl (by decide) v3 pre.length _ rfl (HS2.out.1.r3.alloc _) ⟨w2.heap.size, 0, none⟩ 1 1 [.int .i64 (kindI x)] rfl rfl (by simpa using cell_one_new (w2.setCell ⟨w.heap.size + 1 + 1, 0, none⟩ _) _ _) (by simp [Value.oneCell']) (by unfold maxLen; omega) (by omega) (by have := HS2.out.1.size; simp at this ⊢; omega) ?_; intro v3' w3 hown3 hg3 _ _; obtain ⟨g3, cap3, rfl⟩ := ownsRow_succ hown3; obtain ⟨hv3, hS3, hk3, hb3⟩ := HS2.out.1.app3 hown3 hg3; have hc3 : w3.cell? ⟨w.heap.size + 1 + 1 + 1, 0, none⟩ = some v3 := hv3.cell; have hf3 : w3.frozen? ⟨w.heap.size + 1 + 1 + 1, 0, none⟩ = false := hv3.frozen; have HS3 := hid (And.intro hS3 (And.intro hk3 hb3)); clear hown3 hg3 hv3 hS3 hk3 hb3))
    obtain ⟨_, hk1, hb1⟩ := HS1.out
    obtain ⟨_, hk2, hb2⟩ := HS2.out
    obtain ⟨hS3, hk3, hb3⟩ := HS3.out
    exact ⟨((hk1.trans hk2).trans hk3).from _, by rw [World.size_alloc]; exact (hb1.trans hb2).trans hb3, ⟨Trio.snoc hS3, by simp; omega⟩, HB.out.trans ((hb1.trans hb2).trans hb3)⟩
  case done =>
    rintro D ys W hD rfl ⟨hI, hB⟩ hK
    have hI := upI_done hI
    obtain ⟨v1, v2, v3, hS⟩ := hI
    generalize hL : (ents M).take m.toNat = L at *
    have HL := hid hL
    clear hL
    have c1 := hS.b1.cell
    have c2 := hS.b2.cell
    have c3 : W.cell? ⟨w.heap.size + 1 + 1 + 1, 0, none⟩ = some v3 := hS.b3.cell
    have f1 := hS.b1.frozen
    have f2 := hS.b2.frozen
    have f3 : W.frozen? ⟨w.heap.size + 1 + 1 + 1, 0, none⟩ = false := hS.b3.frozen
    obtain ⟨a1, p1, e1, _⟩ := row_shape hS.r1
    obtain ⟨a2, p2, e2, _⟩ := row_shape hS.r2
    obtain ⟨a3, p3, e3, _⟩ := row_shape hS.r3
    subst e1 e2 e3
    have HS := hid hS
    have HB := hid hB
    have HK := hid hK
    have hmo : Try.prog.follows Departure.mixedOrders = true := by kernel_rfl
    clear hS hB hK
    gi_wp2
    gi_region
    gi_wp2
    have hS3 := HS.out.same
    have hB3 := ((HB.out.setCell (p := ⟨w.heap.size + 1, 0, none⟩) (Nat.le_refl _) (.slice a1 L.length p1)).setCell (p := ⟨w.heap.size + 1 + 1, 0, none⟩) (Nat.le_succ _) (.slice a2 L.length p2)).setCell (p := ⟨w.heap.size + 1 + 1 + 1, 0, none⟩) (by show w.heap.size + 1 ≤ w.heap.size + 1 + 1 + 1; omega) (.slice a3 L.length p3)
    have hK3 := (((KeepsOthers.setCell W ⟨w.heap.size + 1, 0, none⟩ (.slice a1 L.length p1)).trans (KeepsOthers.setCell _ ⟨w.heap.size + 1 + 1, 0, none⟩ (.slice a2 L.length p2))).trans (KeepsOthers.setCell _ ⟨w.heap.size + 1 + 1 + 1, 0, none⟩ (.slice a3 L.length p3))).same D _ HK.out rfl
    generalize hWf : ((W.setCell ⟨w.heap.size + 1, 0, none⟩ (.slice a1 L.length p1)).setCell ⟨w.heap.size + 1 + 1, 0, none⟩ (.slice a2 L.length p2)).setCell ⟨w.heap.size + 1 + 1 + 1, 0, none⟩ (.slice a3 L.length p3) = Wf at *
    have hS4 : St (w.heap.size + 1) (w.heap.size + 1) Wf.drew _ _ _ _ _ _ _ _ _ := ⟨hS3.ge, hS3.b1, hS3.b2, hS3.b3, hS3.r1, hS3.r2, hS3.r3, hS3.ne⟩
    have hK4 : Wf.drew.heap[D]? = some (.deferred (some [])) := hK3
    have hS5 := hS4.kept (grownBy_putObj' Wf.drew D (.deferred none)) (fun r e => by cases e; exact ⟨_, hK4, rfl⟩)
    have r1 := hS5.b1.cell
    have r2 := hS5.b2.cell
    have r3 := hS5.b3.cell
    refine ⟨by simp, .inl ⟨_, _, rfl, run_takeDeferred hK4, ?_⟩⟩
    have hB4 : Below w.heap.size w Wf.drew := ((Below.refl _ w).alloc (Nat.le_refl _) _).trans (hB3.drew.mono (Nat.le_succ _))
    rw [HL.out]
    refine ⟨.tuple #[.slice a1 L.length p1, .slice a2 L.length p2, .slice a3 L.length p3], ?_, _, _, _, rfl, hS5, hB4.trans (belowK_b (w := w) (Nat.le_refl _) _ D _ _ (by simp at hD; omega) hK4 rfl rfl)⟩
    simp [results, Try.f13, go_sem, r1, r2, r3]
  case stop =>
    rintro D c pre W hD ⟨k, hk, rfl⟩ ⟨⟨rfl, hI⟩, hB⟩ hK
    have hI := upX_done hk hI
    obtain ⟨v1, v2, v3, hS⟩ := hI
    generalize hL : (ents M).take m.toNat = L at *
    have HL := hid hL
    clear hL
    have c1 := hS.b1.cell
    have c2 := hS.b2.cell
    have c3 : W.cell? ⟨w.heap.size + 1 + 1 + 1, 0, none⟩ = some v3 := hS.b3.cell
    have f1 := hS.b1.frozen
    have f2 := hS.b2.frozen
    have f3 : W.frozen? ⟨w.heap.size + 1 + 1 + 1, 0, none⟩ = false := hS.b3.frozen
    obtain ⟨a1, p1, e1, _⟩ := row_shape hS.r1
    obtain ⟨a2, p2, e2, _⟩ := row_shape hS.r2
    obtain ⟨a3, p3, e3, _⟩ := row_shape hS.r3
    subst e1 e2 e3
    have HS := hid hS
    have HB := hid hB
    have HK := hid hK
    have hmo : Try.prog.follows Departure.mixedOrders = true := by kernel_rfl
    clear hS hB hK
    gi_wp2
    gi_region
    gi_wp2
    have hS3 := HS.out.same
    have hB3 := ((HB.out.setCell (p := ⟨w.heap.size + 1, 0, none⟩) (Nat.le_refl _) (.slice a1 L.length p1)).setCell (p := ⟨w.heap.size + 1 + 1, 0, none⟩) (Nat.le_succ _) (.slice a2 L.length p2)).setCell (p := ⟨w.heap.size + 1 + 1 + 1, 0, none⟩) (by show w.heap.size + 1 ≤ w.heap.size + 1 + 1 + 1; omega) (.slice a3 L.length p3)
    have hK3 := (((KeepsOthers.setCell W ⟨w.heap.size + 1, 0, none⟩ (.slice a1 L.length p1)).trans (KeepsOthers.setCell _ ⟨w.heap.size + 1 + 1, 0, none⟩ (.slice a2 L.length p2))).trans (KeepsOthers.setCell _ ⟨w.heap.size + 1 + 1 + 1, 0, none⟩ (.slice a3 L.length p3))).same D _ HK.out rfl
    generalize hWf : ((W.setCell ⟨w.heap.size + 1, 0, none⟩ (.slice a1 L.length p1)).setCell ⟨w.heap.size + 1 + 1, 0, none⟩ (.slice a2 L.length p2)).setCell ⟨w.heap.size + 1 + 1 + 1, 0, none⟩ (.slice a3 L.length p3) = Wf at *
    have hS4 : St (w.heap.size + 1) (w.heap.size + 1) Wf.drew _ _ _ _ _ _ _ _ _ := ⟨hS3.ge, hS3.b1, hS3.b2, hS3.b3, hS3.r1, hS3.r2, hS3.r3, hS3.ne⟩
    have hK4 : Wf.drew.heap[D]? = some (.deferred (some [])) := hK3
    have hS5 := hS4.kept (grownBy_putObj' Wf.drew D (.deferred none)) (fun r e => by cases e; exact ⟨_, hK4, rfl⟩)
    have r1 := hS5.b1.cell
    have r2 := hS5.b2.cell
    have r3 := hS5.b3.cell
    refine ⟨by simp, .inl ⟨_, _, rfl, run_takeDeferred hK4, ?_⟩⟩
    have hB4 : Below w.heap.size w Wf.drew := ((Below.refl _ w).alloc (Nat.le_refl _) _).trans (hB3.drew.mono (Nat.le_succ _))
    rw [HL.out]
    refine ⟨.tuple #[.slice a1 L.length p1, .slice a2 L.length p2, .slice a3 L.length p3], ?_, _, _, _, rfl, hS5, hB4.trans (belowK_b (w := w) (Nat.le_refl _) _ D _ _ (by simp at hD; omega) hK4 rfl rfl)⟩
    simp [results, Try.f13, go_sem, r1, r2, r3]
end Go.Proofs.Qxb6613416a
