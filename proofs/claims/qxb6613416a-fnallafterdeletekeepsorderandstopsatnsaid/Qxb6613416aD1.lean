import Derived.Test.Qxb6613416aS5
import Derived.Deep.RegionLaw
import Derived.Laws.IdiomCopy
namespace Go.Proofs.Qxb6613416a
open Go.RowKit Go.Maps Go.Shelf

/-- The entries but those of the key. -/
def others (L : List Ent) (key : ByteArray) : List Ent := L.filter fun e => !hit key e

theorem others_none {L : List Ent} {key : ByteArray} (h : findE L key = none) : others L key = L := by
  unfold others
  rw [List.filter_eq_self]
  intro e he
  rw [findE_none.1 h e he]; rfl

theorem others_some {L : List Ent} {key : ByteArray} {i : Nat} (hD : Dist L) (h : findE L key = some i) : L.take i ++ L.drop (i + 1) = others L key := by
  obtain ⟨hi, hk, hb⟩ := findE_some h
  have hsplit : L = L.take i ++ L[i] :: L.drop (i + 1) := by rw [← List.drop_eq_getElem_cons hi, List.take_append_drop]
  have h1 : others (L.take i) key = L.take i := by
    unfold others
    rw [List.filter_eq_self]
    intro e he
    obtain ⟨j, hj, rfl⟩ := List.getElem_of_mem he
    rw [List.getElem_take]
    rw [hb j (by simp at hj; omega)]; rfl
  have h2 : others (L.drop (i + 1)) key = L.drop (i + 1) := by
    unfold others
    rw [List.filter_eq_self]
    intro e he
    obtain ⟨j, hj, rfl⟩ := List.getElem_of_mem he
    rw [List.getElem_drop]
    have hj' : i + 1 + j < L.length := by simp at hj; omega
    have := hD i (i + 1 + j) hi hj' (by omega)
    rw [hit_false] at this
    have h3 : hit key (L[i + 1 + j]) = false := by
      rw [hit_false]
      intro e
      exact this (hk.trans e.symm)
    rw [h3]; rfl
  have h0 : hit key L[i] = true := hit_iff.2 hk
  conv => rhs; rw [hsplit]
  unfold others at h1 h2 ⊢
  rw [List.filter_append, List.filter_cons, h0, h1, h2]
  simp

/-- The members, the i-th gone. -/
def cut (M : List Mem) (i : Nat) : List Mem := M.take i ++ M.drop (i + 1)
theorem cut_length {M : List Mem} {i : Nat} (h : i < M.length) : (cut M i).length = M.length - 1 := by simp [cut]; omega
theorem ents_cut (M : List Mem) (i : Nat) : ents (cut M i) = (ents M).take i ++ (ents M).drop (i + 1) := by simp [cut, ents]
theorem cut_low {M : List Mem} {i k : Nat} (h : i < M.length) (hk : k < i) : memAt (cut M i) k = memAt M k := by
  unfold cut memAt
  rw [List.getD_eq_getElem?_getD, List.getD_eq_getElem?_getD, List.getElem?_append_left (by simp; omega), List.getElem?_take_of_lt hk]
theorem cut_high {M : List Mem} {i k : Nat} (h : i < M.length) (hk : i ≤ k) : memAt (cut M i) k = memAt M (k + 1) := by
  unfold cut memAt
  rw [List.getD_eq_getElem?_getD, List.getD_eq_getElem?_getD, List.getElem?_append_right (by simp; omega), List.getElem?_drop]
  congr 2
  simp
  omega
theorem mem_cut {M : List Mem} {i : Nat} {x : Mem} (h : x ∈ cut M i) : x ∈ M := by
  unfold cut at h
  rcases List.mem_append.1 h with h | h
  · exact List.mem_of_mem_take h
  · exact List.mem_of_mem_drop h

theorem below_setCells {B : Nat} {a : World} (b : Nat) (hb : B ≤ b) : ∀ (vs : List Value) (o : Nat) (w : World), Below B a w → Below B a (w.setCells b o vs)
  | [], _, _, h => h
  | v :: r, o, _, h => below_setCells b hb r (o + 1) _ (h.setCell (p := ⟨b, o, none⟩) hb v)

theorem heap_setCells_ne (b k : Nat) (h : k ≠ b) : ∀ (vs : List Value) (o : Nat) (w : World), (w.setCells b o vs).heap[k]? = w.heap[k]?
  | [], _, _ => rfl
  | v :: r, o, w => (heap_setCells_ne b k h r (o + 1) _).trans (heap_setCell_other w ⟨b, o, none⟩ k v h)

/-- The cells that move. -/
def moved (M : List Mem) (i : Nat) : List Value := flat (M.drop (i + 1))
theorem moved_length (M : List Mem) (i : Nat) : (moved M i).length = (M.length - (i + 1)) * 2 := by rw [moved, flat_length, List.length_drop]
theorem flat_one : ∀ (M : List Mem), ∀ u ∈ flat M, u.oneCell' = true
  | [], u, h => by simp [flat] at h
  | m :: r, u, h => by
    simp only [flat, List.mem_cons] at h
    rcases h with rfl | rfl | h
    · rfl
    · rfl
    · exact flat_one r u h
theorem flat_drop : ∀ (M : List Mem) (k : Nat), flat (M.drop k) = (flat M).drop (k * 2)
  | M, 0 => by simp
  | [], k + 1 => by simp [flat]
  | m :: r, k + 1 => by
    rw [List.drop_succ_cons, flat_drop r k, show (k + 1) * 2 = k * 2 + 1 + 1 by omega]
    simp [flat]
theorem moved_get {M : List Mem} {i j : Nat} : (moved M i)[j]? = (flat M)[(i + 1) * 2 + j]? := by
  rw [moved, flat_drop, List.getElem?_drop]

theorem row_cap {W : World} {S0 r n cap e sz : Nat} {xs : List Value} (ho : W.ownsRow S0 e sz (.slice (some ⟨r, 0, none⟩) n cap) n xs) : n ≤ cap ∧ cap ≤ maxLen := by
  rcases ho.2 with ⟨h', _⟩ | ⟨g, c, cur, h', hb, hg, h1, h2, _⟩
  · simp at h'
  · simp only [Value.slice.injEq, Option.some.injEq, Addr.mk.injEq, and_true, true_and] at h'
    obtain ⟨rfl, rfl⟩ := h'
    exact ⟨h1, h2⟩

/-- The object row behind the cut: what the iterator reads. -/
theorem ready_cut {S0 : Nat} {w0 w W : World} {ob r cap i : Nat} {M : List Mem} {mi : Option Nat} (hw0 : w0.heap.size = S0) (hh : ∀ x ∈ M, Held w0 x.1 (.iface x.2.1 x.2.2)) (hb0 : Below S0 w0 w) (hl : M.length ≤ 4096) (hi : i < M.length) (hge : S0 ≤ ob)
    (hob : w.heap[ob]? = some (obBlock r M.length cap mi)) (hown : w.ownsRow S0 60 2 (.slice (some ⟨r, 0, none⟩) M.length cap) M.length (flat M))
    (hW : W = ((w.drew.setCells r (i * 2) (moved M i)).setCell ⟨ob, 0, none⟩ (.slice (some ⟨r, 0, none⟩) (M.length - 1) cap)).setCell ⟨ob, 1, none⟩ (.map none)) :
    Ready W ob (cut M i) ∧ Below S0 w W := by
  have hr := row_ne hob hown
  have hbW : Below S0 w W := by
    subst hW
    exact ((below_setCells r (row_block hown).1 _ _ _ (Below.refl S0 w).drew).setCell hge _).setCell hge _
  have hsome : ∀ j, j < M.length * 2 → (w.drew.cell? ⟨r, j, none⟩).isSome = true := by
    intro j hj
    show (w.cell? _).isSome = true
    rw [hown.cellAt j hj, List.getElem?_eq_getElem (by rw [flat_length]; exact hj)]
    rfl
  have hlen := moved_length M i
  have hcr : ∀ j, j < (M.length - 1) * 2 → W.cell? ⟨r, j, none⟩ = (flat M)[if j < i * 2 then j else j + 2]? := by
    intro j hj
    subst hW
    rw [World.cell?_setCell_other, World.cell?_setCell_other]
    · by_cases hji : j < i * 2
      · rw [if_pos hji, World.cell?_setCells_out r _ _ _ _ (fun _ _ => .inl hji)]
        exact hown.cellAt j (by omega)
      · rw [if_neg hji]
        have h1 := World.cell?_setCells_in r (moved M i) (i * 2) w.drew (fun j' hj' => hsome _ (by omega)) (j - i * 2) (by omega)
        rw [show i * 2 + (j - i * 2) = j by omega] at h1
        rw [h1, ← List.getElem?_eq_getElem, moved_get]
        congr 1
        omega
    · simp
    · simp
  have hob' : W.cell? ⟨ob, 0, none⟩ = some (.slice (some ⟨r, 0, none⟩) (M.length - 1) cap) := by
    subst hW
    have e0 : w.drew.heap[ob]? = some (obBlock r M.length cap mi) := hob
    have e1 := (heap_setCells_ne r ob (Ne.symm hr) (moved M i) (i * 2) w.drew).trans e0
    have e2 := ob_set0 e1 r (M.length - 1) cap
    exact ob_cell0 (ob_set1 e2 none)
  refine ⟨⟨by rw [cut_length hi]; omega, ⟨r, cap, by rw [cut_length hi]; exact hob', fun k hk => ?_⟩, fun k hk => ?_⟩, hbW⟩
  · rw [cut_length hi] at hk
    rw [hcr _ (by omega), hcr _ (by omega)]
    by_cases hki : k < i
    · rw [cut_low hi hki, if_pos (by omega), if_pos (by omega)]
      exact ⟨flat_key M k (by omega), flat_val M k (by omega)⟩
    · rw [cut_high hi (by omega), if_neg (by omega), if_neg (by omega), show k * 2 + 2 = (k + 1) * 2 by omega, show k * 2 + 1 + 2 = (k + 1) * 2 + 1 by omega]
      exact ⟨flat_key M (k + 1) (by omega), flat_val M (k + 1) (by omega)⟩
  · rw [memAt_eq hk]
    exact (hh _ (mem_cut (List.getElem_mem _))).below (by rw [hw0]; exact hb0.trans hbW)
def DelPost (S0 : Nat) (w : World) (ob : Nat) (L : List Ent) (e : Ending) (w' : World) : Prop :=
  e = .returned (.tuple #[]) ∧ ∃ M', ents M' = L ∧ Ready w' ob M' ∧ Below S0 w w'

set_option maxRecDepth 1000000 in
set_option maxHeartbeats 4000000 in
theorem del_any (S0 ob : Nat) (M : List Mem) (key : ByteArray) (w0 w : World) (hw0 : w0.heap.size = S0) (hh : ∀ x ∈ M, Held w0 x.1 (.iface x.2.1 x.2.2)) (hb0 : Below S0 w0 w) (hl : M.length ≤ 4096) (h : ObjIs S0 w ob M) (hkey : key.size ≤ maxLen) :
    Calls Try.prog 12 #[.pointer (some ⟨ob, 0, none⟩), .string key] w fun e w' => DelPost S0 w ob (others (ents M) key) e w' := by
  have HO := hid h
  have HH := hid (And.intro hw0 (And.intro hh hb0))
  have HK := hid hkey
  clear h hw0 hh hb0 hkey
  obtain ⟨fe, hfe⟩ : ∃ fe, findE (ents M) key = fe := ⟨_, rfl⟩
  have HF := hid hfe
  clear hfe
  cases fe with
  | none =>
    have e1 : found (ents M) key = .tuple #[.int .i64 0, .bool false] := by rw [found, HF.out]; rfl
    have E1 := hid e1
    clear e1
    go_enter Try.func12, Try.ntmps12
    go_wp2_with (go_at_call 20; refine (search_any S0 ob M key w HK.out (by omega) HO.out).mono ?_; rintro e w1 ⟨he, ho, hb⟩; rw [E1.out] at he; subst he; have HO1 := hid ho; have HB1 := hid hb; clear ho hb)
    refine bodyPost_ret (v := .tuple #[]) (by simp [results, Try.results12, go_sem]) rfl ?_
    refine ⟨rfl, M, (others_none HF.out).symm, ready_of HO1.out (fun x hx => (HH.out.2.1 x hx).below (by rw [HH.out.1]; exact HH.out.2.2.trans HB1.out)) hl, HB1.out⟩
  | some i =>
    have e1 : found (ents M) key = .tuple #[.int .i64 (i : Int), .bool true] := by rw [found, HF.out]; rfl
    have E1 := hid e1
    have hil : i < M.length := by have := (findE_some HF.out).1; rwa [ents_length] at this
    clear e1
    obtain ⟨i0, hi0, hz0, hz1, hz2⟩ := info_parts info60
    have hwr : IntKind.i64.wrap ((i : Int) + 1) = (i : Int) + 1 := by rw [IntKind.wrap_i64]; omega
    go_enter Try.func12, Try.ntmps12
    go_wp2_with (go_at_call 20; refine (search_any S0 ob M key w HK.out (by omega) HO.out).mono ?_; rintro e w1 ⟨he, ho, hb⟩; rw [E1.out] at he; subst he; obtain ⟨hge, hD, hks, r, cap, mi, hob, hown, hmi⟩ := ho; have c0 := ob_cell0 hob; have HA := hid (And.intro hge (And.intro hD (And.intro hob (And.intro hown hb)))); clear hge hD hks hob hown hmi hb)
    have hcap := row_cap HA.out.2.2.2.1
    have hic : i ≤ cap := by omega
    have hp0 : (0 : Int) ≤ (i : Int) + 1 := by omega
    have hp1 : (i : Int) + 1 ≤ (M.length : Int) := by omega
    have hp2 : ((i : Int) + 1).toNat = i + 1 := by omega
    obtain ⟨A, hA, hnews⟩ : ∃ A : Addr, (if cap = i + 1 then some (⟨r, 0, none⟩ : Addr) else some ⟨r, (i + 1) * 2, none⟩) = some A ∧ Hid (∀ j u, (moved M i)[j]? = some u → w1.drew.cell? (A.add j) = some u) := by
      by_cases h : cap = i + 1
      · refine ⟨⟨r, 0, none⟩, by simp [h], fun j u hu => ?_⟩
        have h0 : (moved M i).length = 0 := by rw [moved_length]; omega
        rw [List.length_eq_zero_iff.1 h0] at hu
        simp at hu
      · refine ⟨⟨r, (i + 1) * 2, none⟩, by simp [h], fun j u hu => ?_⟩
        have hj : j < (M.length - (i + 1)) * 2 := by
          have := (List.getElem?_eq_some_iff.1 hu).1
          rwa [moved_length] at this
        rw [moved_get] at hu
        rw [Addr.add_lit]
        exact (HA.out.2.2.2.1.cellAt ((i + 1) * 2 + j) (by omega)).trans hu
    have s1 : Hid ((moved M i).length = (M.length - (i + 1)) * 2) := moved_length M i
    have s2 : Hid (∀ u ∈ moved M i, u.oneCell' = true) := flat_one _
    have s3 : Hid (∀ j, j < (moved M i).length → (w1.drew.cell? ⟨r, 0 + i * 2 + j, none⟩).isSome = true ∧ w1.drew.frozen? ⟨r, 0 + i * 2 + j, none⟩ = false) := by
      intro j hj
      rw [moved_length] at hj
      rw [Nat.zero_add]
      refine ⟨?_, HA.out.2.2.2.1.frozenAt _⟩
      show (w1.cell? _).isSome = true
      rw [HA.out.2.2.2.1.cellAt _ (by omega), List.getElem?_eq_getElem (by rw [flat_length]; omega)]
      rfl
    have k0 : (w1.drew.setCells r (i * 2) (moved M i)).cell? ⟨ob, 0, none⟩ = some (.slice (some ⟨r, 0, none⟩) M.length cap) := ob_cell0 ((heap_setCells_ne r ob (Ne.symm (row_ne HA.out.2.2.1 HA.out.2.2.2.1)) (moved M i) (i * 2) w1.drew).trans HA.out.2.2.1)
    have k1 : (w1.drew.setCells r (i * 2) (moved M i)).cell? ⟨ob, 1, none⟩ = some (.map mi) := ob_cell1 ((heap_setCells_ne r ob (Ne.symm (row_ne HA.out.2.2.1 HA.out.2.2.2.1)) (moved M i) (i * 2) w1.drew).trans HA.out.2.2.1)
    have e0 : (w1.drew.setCells r (i * 2) (moved M i)).frozen? ⟨ob, 0, none⟩ = false := ob_free ((heap_setCells_ne r ob (Ne.symm (row_ne HA.out.2.2.1 HA.out.2.2.2.1)) (moved M i) (i * 2) w1.drew).trans HA.out.2.2.1) 0
    have e1 : (w1.drew.setCells r (i * 2) (moved M i)).frozen? ⟨ob, 1, none⟩ = false := ob_free ((heap_setCells_ne r ob (Ne.symm (row_ne HA.out.2.2.1 HA.out.2.2.2.1)) (moved M i) (i * 2) w1.drew).trans HA.out.2.2.1) 1
    go_region_law (refine step_append_room rfl (.tmp 20) (.tmp 27) 45 rfl 60 i0 2 Try.underlying45 hi0 hz1 r 0 i cap (by simp [Act.eval, Act.put]) A (M.length - (i + 1)) (cap - (i + 1)) (moved M i) (by simp [Act.eval, Act.put]) s1.out hnews.out s2.out (by omega) s3.out ?_)
    all_goals go_wp2
    all_goals go_end0
    all_goals
      rw [show i + (M.length - (i + 1)) = M.length - 1 by omega]
      obtain ⟨hge, hD, hob, hown, hb⟩ := HA.out
      obtain ⟨hR, hB⟩ := ready_cut HH.out.1 HH.out.2.1 (HH.out.2.2.trans hb) hl hil hge hob hown rfl
      exact ⟨rfl, cut M i, by rw [ents_cut]; exact others_some hD HF.out, hR, hb.trans hB⟩
end Go.Proofs.Qxb6613416a
