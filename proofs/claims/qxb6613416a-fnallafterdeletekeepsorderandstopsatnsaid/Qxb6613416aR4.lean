import Derived.Test.Qxb6613416aR3
namespace Go.Proofs.Qxb6613416a
open Go.RowKit Go.Maps

theorem mk_map (v : Int) (w : World) : (Instr.makeMap 56 (some (.int .i64 v))).run Try.prog w = .ok (.map (some w.heap.size)) (w.alloc (.map #[] 0)) := by kernel_rfl

/-- The object's two cells. -/
def obBlock (r n cap : Nat) (mi : Option Nat) : Obj := .cells #[.slice (some ⟨r, 0, none⟩) n cap, .map mi] 58 (0, 0)

theorem ob_set1 {w : World} {ob r n cap : Nat} {mi : Option Nat} (h : w.heap[ob]? = some (obBlock r n cap mi)) (mi' : Option Nat) : (w.setCell ⟨ob, 1, none⟩ (.map mi')).heap[ob]? = some (obBlock r n cap mi') := by
  rw [heap_setCell_same w ob 1 _ _ _ h]; rfl
theorem ob_set0 {w : World} {ob r n cap : Nat} {mi : Option Nat} (h : w.heap[ob]? = some (obBlock r n cap mi)) (r' n' cap' : Nat) : (w.setCell ⟨ob, 0, none⟩ (.slice (some ⟨r', 0, none⟩) n' cap')).heap[ob]? = some (obBlock r' n' cap' mi) := by
  rw [heap_setCell_same w ob 0 _ _ _ h]; rfl
theorem ob_cell0 {w : World} {ob r n cap : Nat} {mi : Option Nat} (h : w.heap[ob]? = some (obBlock r n cap mi)) : w.cell? ⟨ob, 0, none⟩ = some (.slice (some ⟨r, 0, none⟩) n cap) := by simp [World.cell?, h, obBlock]
theorem ob_cell1 {w : World} {ob r n cap : Nat} {mi : Option Nat} (h : w.heap[ob]? = some (obBlock r n cap mi)) : w.cell? ⟨ob, 1, none⟩ = some (.map mi) := by simp [World.cell?, h, obBlock]
theorem ob_free {w : World} {ob r n cap : Nat} {mi : Option Nat} (h : w.heap[ob]? = some (obBlock r n cap mi)) (i : Nat) : w.frozen? ⟨ob, i, none⟩ = false := by simp [World.frozen?, h, obBlock]

/-- While the index is built: the first k keys are in it. -/
structure BuildRel (w : World) (ob r n cap : Nat) (L : List Ent) (k : Nat) (wr : World) : Prop where
  obj : wr.heap[ob]? = some (obBlock r n cap (some w.heap.size))
  idx : ∃ D : DataW Unit, wr.ownsMap Try.prog 9 (plainElem Try.prog 3) w.heap.size k D ∧ IdxIs D (L.take k)
  old : w.grownBy wr (some ob)

theorem BuildRel.start {w : World} {ob r n cap : Nat} {L : List Ent} (h : w.heap[ob]? = some (obBlock r n cap none)) : BuildRel w ob r n cap L 0 ((w.setCell ⟨ob, 1, none⟩ (.map (some w.heap.size))).alloc (.map #[] 0)) := by
  have hlt := lt_of_block h
  have hsz : (w.setCell ⟨ob, 1, none⟩ (.map (some w.heap.size))).heap.size = w.heap.size := by simp
  refine ⟨(heap_alloc_old _ _ (by rw [hsz]; exact hlt)).trans (ob_set1 h _), ⟨.map [], ?_, by simpa using IdxIs.nil⟩, ⟨rfl, rfl, rfl, by simp, fun k hk hne => ?_⟩⟩
  · have := World.ownsMap_made (w.setCell ⟨ob, 1, none⟩ (.map (some w.heap.size))) Try.prog 9 (plainElem (H := Unit) Try.prog 3)
    rwa [hsz] at this
  · rw [heap_alloc_old _ _ (by rw [hsz]; exact hk)]
    exact heap_setCell_other _ _ _ _ (fun e => hne (by rw [e]))

/-- One more key goes in. -/
theorem BuildRel.step {w : World} {ob r n cap : Nat} {L : List Ent} {k : Nat} {wr : World} (h : BuildRel w ob r n cap L k wr) (hlt : ob < w.heap.size) (hk : k < L.length) (hk2 : k ≤ 1048576) (hD : Dist L) {s : ByteArray} (hs : s = (entAt L k).key) (hsz : s.size ≤ maxLen) (o : Obj) :
    ∃ w2, (Instr.mapUpdate 56 (.map (some w.heap.size)) (.string s) (.int .i64 (k : Int))).run Try.prog (wr.alloc o).drew = .ok () w2 ∧ BuildRel w ob r n cap L (k + 1) w2 := by
  obtain ⟨h1, ⟨D, hown, hI⟩, h3⟩ := h
  obtain ⟨w2, hrun, hown2, hg2⟩ := (hown.alloc o).drew.update law9 Try.underlying56 (by unfold maxLen; omega) (WideMaps.keyOf_string_mk Try.underlying9 hsz) (plainElem_int (H := Unit) Try.underlying3 (a := (k : Int)) (WalkArith.wf_i64 (by omega)))
  have hsz' : wr.heap.size ≤ (wr.alloc o).drew.heap.size := by show _ ≤ (wr.alloc o).heap.size; simp
  have hlt' : ob < wr.heap.size := Nat.lt_of_lt_of_le hlt h3.size
  have blk : ∀ j, j < wr.heap.size → some j ≠ some w.heap.size → w2.heap[j]? = wr.heap[j]? := fun j hj hne =>
    (hg2.block j (Nat.lt_of_lt_of_le hj hsz') hne).trans (heap_alloc_old wr o hj)
  refine ⟨w2, hrun, ⟨(blk ob hlt' (by simp; omega)).trans h1, ⟨_, hown2, ?_⟩, ⟨hg2.os.trans h3.os, hg2.tape.trans h3.tape, hg2.output.trans h3.output, Nat.le_trans h3.size (Nat.le_trans hsz' hg2.size), fun j hj hne => ?_⟩⟩⟩
  · have he : findE (L.take k) (L[k]).key = none := hD.take k hk
    have := IdxIs.snoc hI hown.isMap he
    rw [List.length_take_of_le (by omega)] at this
    rw [entAt_eq hk] at hs
    rw [List.take_succ_eq_append_getElem hk, hs]
    exact this
  · exact (blk j (Nat.lt_of_lt_of_le hj h3.size) (by simp; omega)).trans (h3.block j hj hne)

set_option maxHeartbeats 4000000 in
theorem search_build (ob r n cap : Nat) (L : List Ent) (vs : Nat → TypeId × Value) (key : ByteArray) (w : World) (hkey : key.size ≤ maxLen) (hn : 64 < n) (hn2 : n ≤ 1048576)
    (hob : w.heap[ob]? = some (obBlock r n cap none)) (hr : r ≠ ob)
    (hm : ∀ k, k < n → w.cell? ⟨r, k * 2, none⟩ = some (.string (entAt L k).key) ∧ w.cell? ⟨r, k * 2 + 1, none⟩ = some (.iface (vs k).1 (vs k).2)) (hD : Dist L) (hL : L.length = n) (hks : ∀ k, k < n → (entAt L k).key.size ≤ maxLen) :
    Calls Try.prog 20 #[.pointer (some ⟨ob, 0, none⟩), .string key] w fun e w' => e = .returned (found L key) ∧ w'.heap[ob]? = some (obBlock r n cap (some w.heap.size)) ∧ w.grownBy w' (some ob) ∧ ∃ D : DataW Unit, w'.ownsMap Try.prog 9 (plainElem Try.prog 3) w.heap.size n D ∧ IdxIs D L := by
  have HM := hid hm
  clear hm
  have HK : Hid (keyOf Try.prog 9 (.string key) = some (keyL key)) := WideMaps.keyOf_string_mk Try.underlying9 hkey
  clear hkey
  have HKS := hid hks
  clear hks
  have HD := hid hD
  clear hD
  have HL := hid hL
  clear hL
  have hmq := meq_none
  have hmm := mk_map
  have c0 : w.cell? ⟨ob, 0, none⟩ = some (.slice (some ⟨r, 0, none⟩) n cap) := by simp [World.cell?, hob, obBlock]
  have c1 : w.cell? ⟨ob, 1, none⟩ = some (.map none) := by simp [World.cell?, hob, obBlock]
  have f1 : w.frozen? ⟨ob, 1, none⟩ = false := by simp [World.frozen?, hob, obBlock]
  have hlt := lt_of_block hob
  have hob' : (w.alloc (.map #[] 0)).heap[ob]? = some (obBlock r n cap none) := (heap_alloc_old w _ hlt).trans hob
  have f1' := ob_free hob' 1
  have c1' := ob_cell1 hob'
  have c0' := ob_cell0 (ob_set1 hob' (some w.heap.size))
  have HST := hid (BuildRel.start (L := L) hob)
  have HOB := hid hob
  clear hob hob'
  go_enter Try.func20, Try.ntmps20
  go_wp2
  go_loopw [56, 7, 8] (fun i _ _ wr => ∃ k : Nat, k ≤ n ∧ i = .int .i64 k ∧ Hid (BuildRel w ob r n cap L k wr)) (fun i _ _ _ => n - (intOf i).toNat)
  case atStart => exact ⟨0, Nat.zero_le _, rfl, HST⟩
  case round =>
    obtain ⟨k, hk, rfl, hB⟩ := hrel
    by_cases hlt : k < n
    · obtain ⟨q0, q1⟩ := HM.out k hlt
      have q0 := hB.out.old.cell q0 (by simpa using hr)
      have q1 := hB.out.old.cell q1 (by simpa using hr)
      obtain ⟨s, hs⟩ : ∃ s, s = (entAt L k).key := ⟨_, rfl⟩
      rw [← hs] at q0
      have hsz : s.size ≤ maxLen := by rw [hs]; exact HKS.out k hlt
      generalize (vs k).1 = vt, (vs k).2 = v at *
      obtain ⟨w2, hrun, hB2⟩ := hB.out.step (lt_of_block HOB.out) (by rw [HL.out]; exact hlt) (by omega) HD.out hs hsz (.cells #[.string s, .iface vt v] 60)
      have HB2 := hid hB2
      have hlt' : ob < wr.heap.size := lt_of_block hB.out.obj
      have c1r : (wr.alloc (.cells #[.string s, .iface vt v] 60)).cell? ⟨ob, 1, none⟩ = some (.map (some w.heap.size)) := ob_cell1 ((heap_alloc_old wr _ hlt').trans hB.out.obj)
      clear hs hsz hB2
      go_wp2
      go_region
      all_goals go_wp2
      all_goals go_roundw
      case rel => exact ⟨k + 1, by omega, by go_num, HB2⟩
      case measure => simp [intOf]; omega
    · have c1r : wr.cell? ⟨ob, 1, none⟩ = some (.map (some w.heap.size)) := ob_cell1 hB.out.obj
      obtain rfl : k = n := by omega
      obtain ⟨D, hown, hI⟩ := hB.out.idx
      rw [List.take_of_length_le (by rw [HL.out]; exact Nat.le_refl _)] at hI
      have HO := hid hown
      have HI := hid hI
      clear hown hI
      go_wp2_with (first
        | (at_lookup; refine wpList_lookup_own_ok_int _ rfl _ _ 56 rfl 9 3 .i64 law9 Try.underlying56 Try.underlying3 (zero3 _) w.heap.size k D rfl HO.out _ _ rfl HK.out ?_; intro c hat hwc; have HAT := hid hat; clear hat)
        | fail)
      go_ret2
      exact ⟨by rw [found_map HI.out HAT.out]; rfl, hB.out.obj, hB.out.old, D, HO.out, HI.out⟩
end Go.Proofs.Qxb6613416a
