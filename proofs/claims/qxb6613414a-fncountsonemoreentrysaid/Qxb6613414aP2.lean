import Derived.Test.Qxb6613414aP1
import Derived.WalkKit
import Derived.ShutString
import Derived.Below
namespace Go.Proofs.Qxb6613414a.fnCounts
open Go.ChangeShapes Go.WideShapes Go.ChangeAt Go.RowKit
set_option linter.unusedVariables false

theorem own : ownKnob Try.prog.godebug = none := by kernel_rfl
theorem laidOut : laidOutB Try.prog = true := by kernel_rfl
theorem cells33 : Try.prog.cellsOf 33 = 11 := by kernel_rfl
theorem cells22 : Try.prog.cellsOf 22 = 1 := by kernel_rfl
theorem cells23 : Try.prog.cellsOf 23 = 1 := by kernel_rfl
theorem cells24 : Try.prog.cellsOf 24 = 1 := by kernel_rfl
theorem cells25 : Try.prog.cellsOf 25 = 1 := by kernel_rfl
theorem cells26 : Try.prog.cellsOf 26 = 1 := by kernel_rfl
theorem cells27 : Try.prog.cellsOf 27 = 1 := by kernel_rfl
theorem cells28 : Try.prog.cellsOf 28 = 1 := by kernel_rfl
theorem cells29 : Try.prog.cellsOf 29 = 1 := by kernel_rfl
theorem cells30 : Try.prog.cellsOf 30 = 1 := by kernel_rfl
theorem cells31 : Try.prog.cellsOf 31 = 1 := by kernel_rfl

theorem array11 {cs : Array Value} (h : cs.size = 11) : ∃ x0 x1 x2 x3 x4 x5 x6 x7 x8 x9 x10, cs = #[x0, x1, x2, x3, x4, x5, x6, x7, x8, x9, x10] := by
  obtain ⟨l⟩ := cs
  match l, h with
  | [x0, x1, x2, x3, x4, x5, x6, x7, x8, x9, x10], _ => exact ⟨x0, x1, x2, x3, x4, x5, x6, x7, x8, x9, x10, rfl⟩

section
variable {H : Type} {enc : TypeId × Value → H} {W : World} {spare : Nat → Bool} {held : Bool}

theorem row1 {m : Nat} {v : Value} {y : DataW H × List MemPlace} (h : DataW.trod enc Try.prog W 0 spare held m 23 [v] = some y) : ∃ a n c, v = .slice a n c ∧ RowK W [0, 1] a n ∧ n ≤ maxLen ∧ (a = none → n = 0 ∧ c = 0) := by
  refine row_ok (kinds := [0, 1]) Try.underlying23 Try.underlying61 (by kernel_rfl) (by decide) rfl (fun j kd hj => ?_) h
  match j, hj with
  | 0, hj =>
    obtain rfl : 0 = kd := by simpa using hj
    exact ⟨_, rfl, rfl, rfl⟩
  | 1, hj =>
    obtain rfl : 1 = kd := by simpa using hj
    exact ⟨_, rfl, rfl, rfl⟩
  | j + 2, hj => simp at hj

theorem row2 {m : Nat} {v : Value} {y : DataW H × List MemPlace} (h : DataW.trod enc Try.prog W 0 spare held m 24 [v] = some y) : ∃ a n c, v = .slice a n c ∧ RowK W [0, 0, 1, 2] a n ∧ n ≤ maxLen ∧ (a = none → n = 0 ∧ c = 0) := by
  refine row_ok (kinds := [0, 0, 1, 2]) Try.underlying24 Try.underlying64 (by kernel_rfl) (by decide) rfl (fun j kd hj => ?_) h
  match j, hj with
  | 0, hj =>
    obtain rfl : 0 = kd := by simpa using hj
    exact ⟨_, rfl, rfl, rfl⟩
  | 1, hj =>
    obtain rfl : 0 = kd := by simpa using hj
    exact ⟨_, rfl, rfl, rfl⟩
  | 2, hj =>
    obtain rfl : 1 = kd := by simpa using hj
    exact ⟨_, rfl, rfl, rfl⟩
  | 3, hj =>
    obtain rfl : 2 = kd := by simpa using hj
    exact ⟨_, rfl, rfl, rfl⟩
  | j + 4, hj => simp at hj

theorem row3 {m : Nat} {v : Value} {y : DataW H × List MemPlace} (h : DataW.trod enc Try.prog W 0 spare held m 25 [v] = some y) : ∃ a n c, v = .slice a n c ∧ RowK W [0, 0] a n ∧ n ≤ maxLen ∧ (a = none → n = 0 ∧ c = 0) := by
  refine row_ok (kinds := [0, 0]) Try.underlying25 Try.underlying58 (by kernel_rfl) (by decide) rfl (fun j kd hj => ?_) h
  match j, hj with
  | 0, hj =>
    obtain rfl : 0 = kd := by simpa using hj
    exact ⟨_, rfl, rfl, rfl⟩
  | 1, hj =>
    obtain rfl : 0 = kd := by simpa using hj
    exact ⟨_, rfl, rfl, rfl⟩
  | j + 2, hj => simp at hj

theorem row4 {m : Nat} {v : Value} {y : DataW H × List MemPlace} (h : DataW.trod enc Try.prog W 0 spare held m 26 [v] = some y) : ∃ a n c, v = .slice a n c ∧ RowK W [0, 0] a n ∧ n ≤ maxLen ∧ (a = none → n = 0 ∧ c = 0) := by
  refine row_ok (kinds := [0, 0]) Try.underlying26 Try.underlying66 (by kernel_rfl) (by decide) rfl (fun j kd hj => ?_) h
  match j, hj with
  | 0, hj =>
    obtain rfl : 0 = kd := by simpa using hj
    exact ⟨_, rfl, rfl, rfl⟩
  | 1, hj =>
    obtain rfl : 0 = kd := by simpa using hj
    exact ⟨_, rfl, rfl, rfl⟩
  | j + 2, hj => simp at hj

theorem row5 {m : Nat} {v : Value} {y : DataW H × List MemPlace} (h : DataW.trod enc Try.prog W 0 spare held m 27 [v] = some y) : ∃ a n c, v = .slice a n c ∧ RowK W [0, 0] a n ∧ n ≤ maxLen ∧ (a = none → n = 0 ∧ c = 0) := by
  refine row_ok (kinds := [0, 0]) Try.underlying27 Try.underlying68 (by kernel_rfl) (by decide) rfl (fun j kd hj => ?_) h
  match j, hj with
  | 0, hj =>
    obtain rfl : 0 = kd := by simpa using hj
    exact ⟨_, rfl, rfl, rfl⟩
  | 1, hj =>
    obtain rfl : 0 = kd := by simpa using hj
    exact ⟨_, rfl, rfl, rfl⟩
  | j + 2, hj => simp at hj

theorem row6 {m : Nat} {v : Value} {y : DataW H × List MemPlace} (h : DataW.trod enc Try.prog W 0 spare held m 28 [v] = some y) : ∃ a n c, v = .slice a n c ∧ RowK W [0, 0] a n ∧ n ≤ maxLen ∧ (a = none → n = 0 ∧ c = 0) := by
  refine row_ok (kinds := [0, 0]) Try.underlying28 Try.underlying70 (by kernel_rfl) (by decide) rfl (fun j kd hj => ?_) h
  match j, hj with
  | 0, hj =>
    obtain rfl : 0 = kd := by simpa using hj
    exact ⟨_, rfl, rfl, rfl⟩
  | 1, hj =>
    obtain rfl : 0 = kd := by simpa using hj
    exact ⟨_, rfl, rfl, rfl⟩
  | j + 2, hj => simp at hj

theorem row7 {m : Nat} {v : Value} {y : DataW H × List MemPlace} (h : DataW.trod enc Try.prog W 0 spare held m 29 [v] = some y) : ∃ a n c, v = .slice a n c ∧ RowK W [0, 0, 0] a n ∧ n ≤ maxLen ∧ (a = none → n = 0 ∧ c = 0) := by
  refine row_ok (kinds := [0, 0, 0]) Try.underlying29 Try.underlying72 (by kernel_rfl) (by decide) rfl (fun j kd hj => ?_) h
  match j, hj with
  | 0, hj =>
    obtain rfl : 0 = kd := by simpa using hj
    exact ⟨_, rfl, rfl, rfl⟩
  | 1, hj =>
    obtain rfl : 0 = kd := by simpa using hj
    exact ⟨_, rfl, rfl, rfl⟩
  | 2, hj =>
    obtain rfl : 0 = kd := by simpa using hj
    exact ⟨_, rfl, rfl, rfl⟩
  | j + 3, hj => simp at hj

theorem row8 {m : Nat} {v : Value} {y : DataW H × List MemPlace} (h : DataW.trod enc Try.prog W 0 spare held m 30 [v] = some y) : ∃ a n c, v = .slice a n c ∧ RowK W [0, 0, 0] a n ∧ n ≤ maxLen ∧ (a = none → n = 0 ∧ c = 0) := by
  refine row_ok (kinds := [0, 0, 0]) Try.underlying30 Try.underlying74 (by kernel_rfl) (by decide) rfl (fun j kd hj => ?_) h
  match j, hj with
  | 0, hj =>
    obtain rfl : 0 = kd := by simpa using hj
    exact ⟨_, rfl, rfl, rfl⟩
  | 1, hj =>
    obtain rfl : 0 = kd := by simpa using hj
    exact ⟨_, rfl, rfl, rfl⟩
  | 2, hj =>
    obtain rfl : 0 = kd := by simpa using hj
    exact ⟨_, rfl, rfl, rfl⟩
  | j + 3, hj => simp at hj

theorem row9 {m : Nat} {v : Value} {y : DataW H × List MemPlace} (h : DataW.trod enc Try.prog W 0 spare held m 31 [v] = some y) : ∃ a n c, v = .slice a n c ∧ RowK W [0, 0, 0] a n ∧ n ≤ maxLen ∧ (a = none → n = 0 ∧ c = 0) := by
  refine row_ok (kinds := [0, 0, 0]) Try.underlying31 Try.underlying76 (by kernel_rfl) (by decide) rfl (fun j kd hj => ?_) h
  match j, hj with
  | 0, hj =>
    obtain rfl : 0 = kd := by simpa using hj
    exact ⟨_, rfl, rfl, rfl⟩
  | 1, hj =>
    obtain rfl : 0 = kd := by simpa using hj
    exact ⟨_, rfl, rfl, rfl⟩
  | 2, hj =>
    obtain rfl : 0 = kd := by simpa using hj
    exact ⟨_, rfl, rfl, rfl⟩
  | j + 3, hj => simp at hj

set_option maxRecDepth 100000 in
theorem doc_open {r : Reach} {b0 : Nat} {v : Value} {d : DataW H} {p : List MemPlace} (hv : Value.okWide Try.prog W r b0 33 v) (h : DataW.Trod enc Try.prog W 0 spare held 33 v d p) :
    ∃ (f : ByteArray) (o : Option Addr) (a1 a2 a3 a4 a5 a6 a7 a8 a9 : Option Addr) (n1 n2 n3 n4 n5 n6 n7 n8 n9 c1 c2 c3 c4 c5 c6 c7 c8 c9 : Nat), v = .agg #[.string f, .pointer o, .slice a1 n1 c1, .slice a2 n2 c2, .slice a3 n3 c3, .slice a4 n4 c4, .slice a5 n5 c5, .slice a6 n6 c6, .slice a7 n7 c7, .slice a8 n8 c8, .slice a9 n9 c9] ∧ DocOk W f o a1 a2 a3 a4 a5 a6 a7 a8 a9 n1 n2 n3 n4 n5 n6 n7 n8 n9 c1 c2 c3 c4 c5 c6 c7 c8 c9 := by
  obtain ⟨cs, rfl, hsz⟩ := okWide_struct Try.underlying33 hv
  obtain ⟨x0, x1, x2, x3, x4, x5, x6, x7, x8, x9, x10, rfl⟩ := array11 (hsz.trans cells33)
  obtain ⟨fuel, hf⟩ := h
  obtain ⟨xs, m, _, _, _, hxl, hx⟩ := DataW.trod_struct Try.underlying33 hf
  have hxl2 : xs.length = 11 := by simpa using hxl
  have t0 : DataW.trod enc Try.prog W 0 spare held m 9 (([x0, x1, x2, x3, x4, x5, x6, x7, x8, x9, x10].drop 0).take (Try.prog.cellsOf 9)) = xs[0]? := hx 0 _ rfl
  rw [List.getElem?_eq_getElem (show 0 < xs.length by omega), cells9] at t0
  replace t0 : DataW.trod enc Try.prog W 0 spare held m 9 [x0] = some (xs[0]'(by omega)) := t0
  have t1 : DataW.trod enc Try.prog W 0 spare held m 22 (([x0, x1, x2, x3, x4, x5, x6, x7, x8, x9, x10].drop 1).take (Try.prog.cellsOf 22)) = xs[1]? := hx 1 _ rfl
  rw [List.getElem?_eq_getElem (show 1 < xs.length by omega), cells22] at t1
  replace t1 : DataW.trod enc Try.prog W 0 spare held m 22 [x1] = some (xs[1]'(by omega)) := t1
  have t2 : DataW.trod enc Try.prog W 0 spare held m 23 (([x0, x1, x2, x3, x4, x5, x6, x7, x8, x9, x10].drop 2).take (Try.prog.cellsOf 23)) = xs[2]? := hx 2 _ rfl
  rw [List.getElem?_eq_getElem (show 2 < xs.length by omega), cells23] at t2
  replace t2 : DataW.trod enc Try.prog W 0 spare held m 23 [x2] = some (xs[2]'(by omega)) := t2
  have t3 : DataW.trod enc Try.prog W 0 spare held m 24 (([x0, x1, x2, x3, x4, x5, x6, x7, x8, x9, x10].drop 3).take (Try.prog.cellsOf 24)) = xs[3]? := hx 3 _ rfl
  rw [List.getElem?_eq_getElem (show 3 < xs.length by omega), cells24] at t3
  replace t3 : DataW.trod enc Try.prog W 0 spare held m 24 [x3] = some (xs[3]'(by omega)) := t3
  have t4 : DataW.trod enc Try.prog W 0 spare held m 25 (([x0, x1, x2, x3, x4, x5, x6, x7, x8, x9, x10].drop 4).take (Try.prog.cellsOf 25)) = xs[4]? := hx 4 _ rfl
  rw [List.getElem?_eq_getElem (show 4 < xs.length by omega), cells25] at t4
  replace t4 : DataW.trod enc Try.prog W 0 spare held m 25 [x4] = some (xs[4]'(by omega)) := t4
  have t5 : DataW.trod enc Try.prog W 0 spare held m 26 (([x0, x1, x2, x3, x4, x5, x6, x7, x8, x9, x10].drop 5).take (Try.prog.cellsOf 26)) = xs[5]? := hx 5 _ rfl
  rw [List.getElem?_eq_getElem (show 5 < xs.length by omega), cells26] at t5
  replace t5 : DataW.trod enc Try.prog W 0 spare held m 26 [x5] = some (xs[5]'(by omega)) := t5
  have t6 : DataW.trod enc Try.prog W 0 spare held m 27 (([x0, x1, x2, x3, x4, x5, x6, x7, x8, x9, x10].drop 6).take (Try.prog.cellsOf 27)) = xs[6]? := hx 6 _ rfl
  rw [List.getElem?_eq_getElem (show 6 < xs.length by omega), cells27] at t6
  replace t6 : DataW.trod enc Try.prog W 0 spare held m 27 [x6] = some (xs[6]'(by omega)) := t6
  have t7 : DataW.trod enc Try.prog W 0 spare held m 28 (([x0, x1, x2, x3, x4, x5, x6, x7, x8, x9, x10].drop 7).take (Try.prog.cellsOf 28)) = xs[7]? := hx 7 _ rfl
  rw [List.getElem?_eq_getElem (show 7 < xs.length by omega), cells28] at t7
  replace t7 : DataW.trod enc Try.prog W 0 spare held m 28 [x7] = some (xs[7]'(by omega)) := t7
  have t8 : DataW.trod enc Try.prog W 0 spare held m 29 (([x0, x1, x2, x3, x4, x5, x6, x7, x8, x9, x10].drop 8).take (Try.prog.cellsOf 29)) = xs[8]? := hx 8 _ rfl
  rw [List.getElem?_eq_getElem (show 8 < xs.length by omega), cells29] at t8
  replace t8 : DataW.trod enc Try.prog W 0 spare held m 29 [x8] = some (xs[8]'(by omega)) := t8
  have t9 : DataW.trod enc Try.prog W 0 spare held m 30 (([x0, x1, x2, x3, x4, x5, x6, x7, x8, x9, x10].drop 9).take (Try.prog.cellsOf 30)) = xs[9]? := hx 9 _ rfl
  rw [List.getElem?_eq_getElem (show 9 < xs.length by omega), cells30] at t9
  replace t9 : DataW.trod enc Try.prog W 0 spare held m 30 [x9] = some (xs[9]'(by omega)) := t9
  have t10 : DataW.trod enc Try.prog W 0 spare held m 31 (([x0, x1, x2, x3, x4, x5, x6, x7, x8, x9, x10].drop 10).take (Try.prog.cellsOf 31)) = xs[10]? := hx 10 _ rfl
  rw [List.getElem?_eq_getElem (show 10 < xs.length by omega), cells31] at t10
  replace t10 : DataW.trod enc Try.prog W 0 spare held m 31 [x10] = some (xs[10]'(by omega)) := t10
  obtain ⟨f, hff, _, hfl⟩ := DataW.trod_string Try.underlying9 t0
  obtain rfl : x0 = .string f := by simpa using hff
  obtain ⟨o, rfl, ho⟩ := org_ok t1
  obtain ⟨a1, n1, c1, rfl, k1⟩ := row1 t2
  obtain ⟨a2, n2, c2, rfl, k2⟩ := row2 t3
  obtain ⟨a3, n3, c3, rfl, k3⟩ := row3 t4
  obtain ⟨a4, n4, c4, rfl, k4⟩ := row4 t5
  obtain ⟨a5, n5, c5, rfl, k5⟩ := row5 t6
  obtain ⟨a6, n6, c6, rfl, k6⟩ := row6 t7
  obtain ⟨a7, n7, c7, rfl, k7⟩ := row7 t8
  obtain ⟨a8, n8, c8, rfl, k8⟩ := row8 t9
  obtain ⟨a9, n9, c9, rfl, k9⟩ := row9 t10
  exact ⟨f, o, a1, a2, a3, a4, a5, a6, a7, a8, a9, n1, n2, n3, n4, n5, n6, n7, n8, n9, c1, c2, c3, c4, c5, c6, c7, c8, c9, rfl, hfl, ho, k1, k2, k3, k4, k5, k6, k7, k8, k9⟩
end

set_option maxRecDepth 100000 in
theorem lifted (os : Os) (started : os.Started) (H : Type) (enc : TypeId × Value → H) :
    ReturnsInHanded {} Try.checked os 3 .any (Rows.fnCountsOneMoreEntrySpec.pre6 enc Try.prog Try.f3 Rows.fnCountsOneMoreEntryRow.domain false) (Rows.fnCountsOneMoreEntrySpec.post enc Try.prog Try.f3 false true false false) := by
  refine returnsInHanded_of_change (C := Try.checked) own started (by kernel_rfl) Try.func3
    (ChangeSpec.witness6 (enc := enc) (C := Try.checked) false ⟨#[], #[.agg #[.string ByteArray.empty, .pointer none, .slice none 0 0, .slice none 0 0, .slice none 0 0, .slice none 0 0, .slice none 0 0, .slice none 0 0, .slice none 0 0, .slice none 0 0, .slice none 0 0], .int .i64 0], []⟩ 8 (by kernel_rfl) (by kernel_rfl) (by kernel_rfl) (by kernel_rfl)) ?_
  intro W base args ds gs before hval0 hW hcnd _
  have hval : ∀ (j : Nat) t v, Try.f3.params[j]? = some t → args[j]? = some v → Value.okWide Try.prog W .any base t v := hval0
  have hW' := hW
  obtain ⟨p, q, hA0, hV, rfl, hfz, hnd⟩ := hW
  have hA : DataW.TrodAll enc Try.prog W 0 (fun _ => true) true Try.f3.params.toList args.toList ds p := hA0
  rw [Try.params3] at hA hval
  obtain ⟨v0, vs0, d0, ds0, p0, q0, hargs, rfl, rfl, h0, r0⟩ := trodAll_cons hA
  obtain ⟨v1, vs1, d1, ds1, p1, q1, rfl, rfl, rfl, h1, r1⟩ := trodAll_cons r0
  obtain ⟨rfl, rfl, rfl⟩ := trodAll_nil r1
  obtain rfl : args = #[v0, v1] := by cases args; simp_all
  obtain ⟨rfl, rfl⟩ := trodVars_none hV
  have k0 := h0
  have lt0 : ∀ x ∈ p0, x.block < W.heap.size := by obtain ⟨m, hm⟩ := k0; exact DataW.trod_lt m _ _ _ hm
  obtain ⟨f, o, a1, a2, a3, a4, a5, a6, a7, a8, a9, n1, n2, n3, n4, n5, n6, n7, n8, n9, c1, c2, c3, c4, c5, c6, c7, c8, c9, rfl, hdoc⟩ := doc_open (hval 0 33 v0 rfl rfl) h0
  obtain ⟨k1, rfl, rfl, rfl, w1⟩ := open_int Try.underlying3 (hval 1 3 v1 rfl rfl) h1
  clear hA0 hval0
  simp only [List.append_nil] at hW'
  refine (main_walk f o a1 a2 a3 a4 a5 a6 a7 a8 a9 n1 n2 n3 n4 n5 n6 n7 n8 n9 c1 c2 c3 c4 c5 c6 c7 c8 c9 k1 W hdoc).mono fun e W' ⟨he, bel⟩ => ?_
  subst he
  exact ⟨_, rfl, _, _, _, [], _, [], hW', trodAll_mk1 (shut_bool Try.underlying4 _), (trodAll_cons_mk (Below.trod laidOut (by kernel_rfl) (of_decide_eq_true (by kernel_rfl)) k0 bel lt0) (trodAll_cons_mk (shut_int Try.underlying3 w1) trodAll_mk0)), rfl, bel.frame _, fun h => by cases h⟩

theorem over : Rows.fnCountsOneMoreEntryRow.holds Try.pinned (OpenSpec.ofChange Rows.fnCountsOneMoreEntrySpec) :=
  OpenClaim.holds_of_wide 3 Try.f3 rfl rfl rfl rfl rfl rfl rfl ⟨rfl, rfl, rfl, rfl, rfl⟩ rfl rfl rfl rfl rfl (by kernel_rfl) Try.func3 (by kernel_rfl)
    (of_decide_eq_true (by kernel_rfl)) (by unfold Func.isWrapper; first | (rw [if_pos (by decide +kernel)]; kernel_rfl) | (rw [if_neg (by decide +kernel)]; exact ⟨rfl, rfl⟩))
    (fun os started H enc _ => lifted os started H enc)

/-- THE STATEMENT -/
theorem proved : Rows.FnCountsOneMoreEntrySaid :=
  over
end Go.Proofs.Qxb6613414a.fnCounts
