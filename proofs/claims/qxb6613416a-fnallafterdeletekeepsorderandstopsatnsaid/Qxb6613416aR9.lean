import Derived.Test.Qxb6613416aR8
import Derived.Deep.RegionLawGrows
namespace Go.Proofs.Qxb6613416a
open Go.RowKit Go.Maps

theorem info41 : (Try.prog.info? 41).map (fun i => (i.zero, i.size, i.bytes)) = some (some (.agg #[.string ByteArray.empty, .string ByteArray.empty, .bool false, .pointer none]), 4, 48) := by kernel_rfl

/-- append onto a row of the call's own, as one step of a region that draws. -/
theorem step_append_own {P : Program} {ops : Array Oper} {o : Oper} {a : Act} {w : World} {K : Act → World → Prop} {Q : Exit → Act → World → Prop} {E : Prop}
    (hg : o.guard = none) (s x : Operand) (t : TypeId) (hop : o.op = Op.call { callee := Callee.builtin Builtin.append, args := #[s, x], argTypes := #[t, t] })
    (base : Nat) (e : TypeId) (i : TypeInfo) (z : Value) (size bytes : Nat) (h1 : P.underlying t = some (.slice e)) (h2 : P.info? e = some i) (h3 : i.zero = some z) (h4 : i.size = size) (h5 : i.bytes = bytes) (h6 : z.cells.size = size) (h7 : 0 < size)
    (v : Value) (n : Nat) (xs : List Value) (hs : a.eval s = v) (hown : w.ownsRow base e size v n xs)
    (ad : Addr) (m c : Nat) (news : List Value) (hx : a.eval x = .slice (some ad) m c) (hn : news.length = m * size) (hc : ∀ j u, news[j]? = some u → w.cell? (ad.add j) = some u) (h1c : ∀ u ∈ news, u.oneCell' = true)
    (b1 : n + m ≤ maxLen) (b2 : (n + m) * bytes ≤ 140737488355328) (hbase : base ≤ w.heap.size)
    (hK : ∀ v' w', w'.ownsRow base e size v' (n + m) (xs ++ news) → w.grownBy w' v.ownBlock → K (a.put o.dst v') w') :
    if Region.wanted o (yielded ops a.tmps) = true then Oper.wp P o a w K Q else E := by
  have hw : Region.wanted o (yielded ops a.tmps) = true := by simp [Region.wanted, hg]
  rw [if_pos hw]
  obtain ⟨v', w', hrun, r1, r2, _⟩ := run_append_own (P := P) w base t o.type e i z size bytes h1 h2 h3 h4 h5 h6 h7 v n xs hown ad m c news hn hc h1c b1 b2 hbase
  unfold Oper.wp
  simp [execOp, hop, resolve, invoke, builtin, hs, hx, hrun, Result.andThen]
  exact hK v' w' r1 r2

/-- The entries' cells. -/
def flatE : List Ent → List Value
  | [] => []
  | e :: r => .string e.key :: .string e.text :: .bool e.num :: .pointer none :: flatE r
theorem flatE_length : ∀ L : List Ent, (flatE L).length = L.length * 4
  | [] => rfl
  | e :: r => by simp [flatE, flatE_length r]; omega
theorem flatE_snoc : ∀ (L : List Ent) (e : Ent), flatE (L ++ [e]) = flatE L ++ [.string e.key, .string e.text, .bool e.num, .pointer none]
  | [], _ => rfl
  | a :: r, e => by simp [flatE, flatE_snoc r e]
theorem flatE_cells : ∀ (L : List Ent) (k : Nat), k < L.length → (flatE L)[k * 4]? = some (.string (entAt L k).key) ∧ (flatE L)[k * 4 + 1]? = some (.string (entAt L k).text) ∧ (flatE L)[k * 4 + 2]? = some (.bool (entAt L k).num) ∧ (flatE L)[k * 4 + 3]? = some (.pointer none)
  | [], _, h => absurd h (Nat.not_lt_zero _)
  | e :: r, 0, _ => by simp [flatE, entAt]
  | e :: r, k + 1, h => by
    have := flatE_cells r k (by simpa using h)
    simp only [flatE, Nat.succ_mul]
    simpa [entAt] using this
theorem flatE_set : ∀ (L : List Ent) (i : Nat) (e : Ent), i < L.length → ((((flatE L).set (i * 4) (.string e.key)).set (i * 4 + 1) (.string e.text)).set (i * 4 + 2) (.bool e.num)).set (i * 4 + 3) (.pointer none) = flatE (L.set i e)
  | [], _, _, h => absurd h (Nat.not_lt_zero _)
  | a :: r, 0, e, _ => by simp [flatE]
  | a :: r, k + 1, e, h => by
    have := flatE_set r k e (by simpa using h)
    simp only [flatE, List.set_cons_succ]
    rw [← this, show (k + 1) * 4 = k * 4 + 1 + 1 + 1 + 1 by omega, show k * 4 + 1 + 1 + 1 + 1 + 1 = (k * 4 + 1) + 1 + 1 + 1 + 1 by omega, show k * 4 + 1 + 1 + 1 + 1 + 2 = (k * 4 + 2) + 1 + 1 + 1 + 1 by omega, show k * 4 + 1 + 1 + 1 + 1 + 3 = (k * 4 + 3) + 1 + 1 + 1 + 1 by omega]
    rfl

/-- The model's node and its entries. -/
def ModelIs (S0 : Nat) (W : World) (mn : Nat) (L : List Ent) : Prop :=
  S0 ≤ mn ∧ ∃ v, W.heap[mn]? = some (.cells #[v] 36 (0, 0)) ∧ W.ownsRow S0 41 4 v L.length (flatE L)

theorem row_shape {W : World} {S0 e sz n : Nat} {v : Value} {xs : List Value} (h : W.ownsRow S0 e sz v n xs) : ∃ a cap, v = .slice a n cap ∧ (0 < n → ∃ g, a = some ⟨g, 0, none⟩) := by
  rcases h.2 with ⟨rfl, rfl⟩ | ⟨g, cap, cur, rfl, _⟩
  · exact ⟨none, 0, rfl, fun h => absurd h (Nat.lt_irrefl _)⟩
  · exact ⟨_, cap, rfl, fun _ => ⟨g, rfl⟩⟩

def place (L : List Ent) (key : ByteArray) : Int := match findE L key with | some i => (i : Int) | none => -1

theorem place_hit {L : List Ent} {key : ByteArray} {k : Nat} (hk : k < L.length) (hno : ∀ j, j < k → hit key (entAt L j) = false) (hy : ((entAt L k).key.toList == key.toList) = true) : place L key = (k : Int) := by
  have : findE L key = some k := by
    refine findE_mk hk ?_ (fun j hj => ?_)
    · rw [← entAt_eq hk]; exact hy
    · have := hno j hj
      rwa [entAt_eq (by omega)] at this
  rw [place, this]
theorem place_none {L : List Ent} {key : ByteArray} (hno : ∀ j, j < L.length → hit key (entAt L j) = false) : place L key = -1 := by
  have : findE L key = none := by
    rw [findE_none]
    intro e he
    obtain ⟨i, hi, rfl⟩ := List.getElem_of_mem he
    have := hno i hi
    rwa [entAt_eq hi] at this
  rw [place, this]

set_option maxHeartbeats 4000000 in
theorem findEntry_any (S0 mn : Nat) (L : List Ent) (key : ByteArray) (w : World) (hn : L.length ≤ 4096) (h : ModelIs S0 w mn L) :
    Calls Try.prog 27 #[.pointer (some ⟨mn, 0, none⟩), .string key] w fun e w' => e = .returned (.int .i64 (place L key)) ∧ w' = w := by
  obtain ⟨hge, v, hmn, hown⟩ := h
  have hown' := hown
  obtain ⟨a, cap, rfl, hsome⟩ := row_shape hown
  have c0 := cell_of_one hmn
  have HO := hid hown'
  have HS := hid hsome
  clear hown hown' hmn hge hsome
  go_enter Try.func27, Try.ntmps27
  go_wp2
  go_loop [5] (fun i => ∃ k : Nat, k ≤ L.length ∧ i = .int .i64 k ∧ Hid (∀ j, j < k → hit key (entAt L j) = false)) (fun i => L.length - (intOf i).toNat)
  case atStart => exact ⟨0, Nat.zero_le _, rfl, fun j hj => absurd hj (Nat.not_lt_zero _)⟩
  case round =>
    obtain ⟨k, hk, rfl, hno⟩ := hrel
    by_cases hlt : k < L.length
    · obtain ⟨g, rfl⟩ := HS.out (by omega)
      have q0 := (HO.out.cellAt (k * 4) (by omega)).trans (flatE_cells L k hlt).1
      obtain ⟨s, hs⟩ : ∃ s, s = (entAt L k).key := ⟨_, rfl⟩
      rw [← hs] at q0
      have HS := hid hs
      clear hs
      cases heq : s.toList == key.toList
      case true =>
        go_wp2
        go_ret
        exact ⟨by rw [place_hit hlt hno.out (by rw [← HS.out]; exact heq)]; rfl, rfl⟩
      case false =>
        go_wp2
        go_round
        case rel => exact ⟨k + 1, by omega, by go_num, hit_step hno.out (by rw [← HS.out]; exact heq)⟩
        case measure => simp [intOf]; omega
    · go_wp2
      go_ret
      have hkl : k = L.length := by omega
      exact ⟨by rw [place_none (by rw [← hkl]; exact hno.out)]; rfl, rfl⟩

theorem node_ne {W : World} {S0 mn g n cap : Nat} {v : Value} {xs : List Value} (h : W.heap[mn]? = some (.cells #[v] 36 (0, 0))) (ho : W.ownsRow S0 41 4 (.slice (some ⟨g, 0, none⟩) n cap) n xs) : g ≠ mn := by
  rintro rfl
  obtain ⟨_, cur, hg⟩ := row_block ho
  rw [h] at hg
  simp at hg

def PutPost (S0 : Nat) (w : World) (mn : Nat) (L : List Ent) (e : Ending) (w' : World) : Prop :=
  e = .returned (.tuple #[]) ∧ ModelIs S0 w' mn L ∧ Below S0 w w'

theorem ModelIs.alloc {S0 : Nat} {w : World} {mn : Nat} {L : List Ent} (h : ModelIs S0 w mn L) (o : Obj) : ModelIs S0 (w.alloc o) mn L := by
  obtain ⟨h1, v, hb, hown⟩ := h
  exact ⟨h1, v, (heap_alloc_old w o (lt_of_block hb)).trans hb, hown.alloc o⟩
theorem ModelIs.size {S0 : Nat} {w : World} {mn : Nat} {L : List Ent} (h : ModelIs S0 w mn L) : S0 ≤ w.heap.size := by
  obtain ⟨h1, v, hb, _⟩ := h
  exact Nat.le_of_lt (Nat.lt_of_le_of_lt h1 (lt_of_block hb))

/-- An entry is set. -/
theorem ModelIs.set {S0 : Nat} {w : World} {mn g cap i : Nat} {L : List Ent} {e : Ent} (hge : S0 ≤ mn) (hmn : w.heap[mn]? = some (.cells #[.slice (some ⟨g, 0, none⟩) L.length cap] 36 (0, 0))) (hown : w.ownsRow S0 41 4 (.slice (some ⟨g, 0, none⟩) L.length cap) L.length (flatE L)) (hi : i < L.length) :
    ModelIs S0 ((((w.setCell ⟨g, i * 4, none⟩ (.string e.key)).setCell ⟨g, i * 4 + 1, none⟩ (.string e.text)).setCell ⟨g, i * 4 + 2, none⟩ (.bool e.num)).setCell ⟨g, i * 4 + 3, none⟩ (.pointer none)) mn (L.set i e) := by
  have hne := node_ne hmn hown
  have o1 := (hown.stored (i * 4) (.string e.key)).1
  have o2 := (o1.stored (i * 4 + 1) (.string e.text)).1
  have o3 := (o2.stored (i * 4 + 2) (.bool e.num)).1
  have o4 := (o3.stored (i * 4 + 3) (.pointer none)).1
  rw [flatE_set L i e hi] at o4
  have hl : (L.set i e).length = L.length := by simp
  refine ⟨hge, _, ?_, by rw [hl]; exact o4⟩
  rw [heap_setCell_other _ _ _ _ (fun e => hne e.symm), heap_setCell_other _ _ _ _ (fun e => hne e.symm), heap_setCell_other _ _ _ _ (fun e => hne e.symm), heap_setCell_other _ _ _ _ (fun e => hne e.symm)]
  exact hmn

set_option maxHeartbeats 8000000 in
theorem putEntry_hit (S0 mn i : Nat) (L : List Ent) (x : Ent) (w : World) (hn : L.length < 4096) (h : ModelIs S0 w mn L) (hf : findE L x.key = some i) :
    Calls Try.prog 18 #[.pointer (some ⟨mn, 0, none⟩), .agg #[.string x.key, .string x.text, .bool x.num, .pointer none]] w fun e w' => PutPost S0 w mn (L.set i x) e w' := by
  obtain ⟨key, text, num⟩ := x
  have hi : i < L.length := (findE_some hf).1
  have hp : place L key = (i : Int) := by simp only [place]; simp only at hf; rw [hf]
  have HP := hid hp
  have HM := hid h
  have hA := h.alloc (.cells #[.string key, .string text, .bool num, .pointer none] 41)
  have HA := hid hA
  obtain ⟨hge, v, hmn, hown⟩ := hA
  obtain ⟨a, cap, rfl, hsome⟩ := row_shape hown
  obtain ⟨g, rfl⟩ := hsome (by omega)
  have c0 := cell_of_one hmn
  have q0 := (hown.cellAt (i * 4) (by omega)).trans (flatE_cells L i hi).1
  have q1 := (hown.cellAt (i * 4 + 1) (by omega)).trans (flatE_cells L i hi).2.1
  have q2 := (hown.cellAt (i * 4 + 2) (by omega)).trans (flatE_cells L i hi).2.2.1
  have q3 := (hown.cellAt (i * 4 + 3) (by omega)).trans (flatE_cells L i hi).2.2.2
  have f0 := hown.frozenAt (i * 4)
  have f1 := hown.frozenAt (i * 4 + 1)
  have f2 := hown.frozenAt (i * 4 + 2)
  have f3 := hown.frozenAt (i * 4 + 3)
  have HO := hid (And.intro hge (And.intro hmn hown))
  clear h hmn hown hge hp hf hsome
  go_enter Try.func18, Try.ntmps18
  go_wp2_with (go_at_call 27; refine (findEntry_any S0 mn L key _ (by omega) HA.out).mono ?_; rintro e w1 ⟨he, rfl⟩; rw [HP.out] at he; subst he)
  go_region
  go_wp2
  refine bodyPost_ret (v := .tuple #[]) (by simp [results, Try.results18, go_sem]) rfl ?_
  obtain ⟨hge, hmn, hown⟩ := HO.out
  have hr := (row_block hown).1
  exact ⟨rfl, ModelIs.set (e := ⟨key, text, num⟩) hge hmn hown hi, (((((Below.refl S0 w).alloc HM.out.size _).setCell hr _).setCell hr _).setCell hr _).setCell hr _ |>.drew⟩

theorem ent_new (w : World) (k t : ByteArray) (x : Bool) : ∀ j u, [Value.string k, .string t, .bool x, .pointer none][j]? = some u → (w.alloc (.cells #[.string k, .string t, .bool x, .pointer none] 41)).cell? ((⟨w.heap.size, 0, none⟩ : Addr).add j) = some u := by
  intro j u hj
  match j, hj with
  | 0, hj => simp at hj; subst hj; simp [Addr.add]
  | 1, hj => simp at hj; subst hj; simp [Addr.add]
  | 2, hj => simp at hj; subst hj; simp [Addr.add]
  | 3, hj => simp at hj; subst hj; simp [Addr.add]
theorem ent_one (k t : ByteArray) (x : Bool) : ∀ u ∈ [Value.string k, .string t, .bool x, .pointer none], u.oneCell' = true := by
  intro u hu
  simp at hu
  rcases hu with rfl | rfl | rfl | rfl <;> rfl

/-- What is known behind the append. -/
theorem put_after {S0 : Nat} {w w1 : World} {mn n : Nat} {v v' : Value} {xs ys : List Value} (hmn : w.heap[mn]? = some (.cells #[v] 36 (0, 0))) (hown0 : w.ownsRow S0 41 4 v n ys)
    (hown : w1.ownsRow S0 41 4 v' (n + 1) xs) (hg : w.grownBy w1 v.ownBlock) :
    ∃ g cap', v' = .slice (some ⟨g, 0, none⟩) (n + 1) cap' ∧ w1.heap[mn]? = some (.cells #[v] 36 (0, 0)) := by
  have hlt := lt_of_block hmn
  have e : w1.heap[mn]? = _ := (hg.block mn hlt (fun e => by
    rcases hown0.2 with ⟨rfl, _⟩ | ⟨g, c, cur, rfl, _, hc, _⟩
    · simp [Value.ownBlock] at e
    · simp [Value.ownBlock] at e
      subst e
      rw [hmn] at hc
      simp at hc)).trans hmn
  rcases hown.2 with ⟨_, h'⟩ | ⟨g, c, cur, h', _⟩
  · cases h'
  · exact ⟨g, c, h', e⟩

theorem put_done {S0 : Nat} {w w1 : World} {mn g cap' : Nat} {L : List Ent} {k t : ByteArray} {x : Bool} {v : Value} {o o' : Obj} (hM : ModelIs S0 w mn L) (hown0 : (w.alloc o).ownsRow S0 41 4 v L.length (flatE L))
    (h : w1.ownsRow S0 41 4 (.slice (some ⟨g, 0, none⟩) (L.length + 1) cap') (L.length + 1) (flatE L ++ [.string k, .string t, .bool x, .pointer none]) ∧ ((w.alloc o).alloc o').drew.grownBy w1 v.ownBlock ∧ w1.heap[mn]? = some (.cells #[v] 36 (0, 0))) :
    PutPost S0 w mn (L ++ [⟨k, t, x⟩]) (.returned (.tuple #[])) (w1.setCell ⟨mn, 0, none⟩ (.slice (some ⟨g, 0, none⟩) (L.length + 1) cap')) := by
  obtain ⟨hown, hg, hmn⟩ := h
  have hne := node_ne hmn hown
  have hl : (L ++ [(⟨k, t, x⟩ : Ent)]).length = L.length + 1 := by simp
  refine ⟨rfl, ⟨hM.1, _, one_setCell hmn, ?_⟩, ?_⟩
  · rw [hl, flatE_snoc]
    exact ownsRow_setCell_other hown (by simpa [Value.ownBlock] using hne) _
  · exact ((((Below.refl S0 w).alloc hM.size o).alloc (by simp; have := hM.size; omega) o').drew.grown hg (by show S0 ≤ ((w.alloc o).alloc o').heap.size; simp; have := hM.size; omega) (fun j hj => (hown0.lt j hj).1)).setCell hM.1 _

set_option maxHeartbeats 8000000 in
theorem putEntry_miss (S0 mn : Nat) (L : List Ent) (x : Ent) (w : World) (hn : L.length < 4096) (h : ModelIs S0 w mn L) (hf : findE L x.key = none) :
    Calls Try.prog 18 #[.pointer (some ⟨mn, 0, none⟩), .agg #[.string x.key, .string x.text, .bool x.num, .pointer none]] w fun e w' => PutPost S0 w mn (L ++ [x]) e w' := by
  obtain ⟨key, text, num⟩ := x
  obtain ⟨i0, hi, hz0, hz1, hz2⟩ := info_parts info41
  have hp : place L key = -1 := by simp only [place]; simp only at hf; rw [hf]
  have HP := hid hp
  have HM := hid h
  have hA := h.alloc (.cells #[.string key, .string text, .bool num, .pointer none] 41)
  have HA := hid hA
  obtain ⟨hge, v, hmn, hown⟩ := hA
  have c0 := cell_of_one hmn
  have hb0 : S0 ≤ w.heap.size := h.size
  have hA2 := hown.alloc (.cells #[.string key, .string text, .bool num, .pointer none] 41)
  have HO := hid (And.intro hge (And.intro hmn hown))
  have HO2 := hid hA2
  have hmn2 := (heap_alloc_old _ (.cells #[.string key, .string text, .bool num, .pointer none] 41) (lt_of_block hmn)).trans hmn
  have HMN2 := hid hmn2
  have c02 := cell_of_one hmn2
  obtain ⟨a, cap, hv, _⟩ := row_shape hown
  subst hv
  clear h hmn hown hge hp hf hA2 hmn2
  go_enter Try.func18, Try.ntmps18
  go_wp2_with (go_at_call 27; refine (findEntry_any S0 mn L key _ (by omega) HA.out).mono ?_; rintro e w1 ⟨he, rfl⟩; rw [HP.out] at he; subst he)
  go_region_law (refine step_append_own rfl (.tmp 22) (.tmp 24) 34 rfl S0 41 i0 _ 4 48 Try.underlying34 hi hz0 hz1 hz2 rfl (by decide) _ L.length (flatE L) (by simp [Act.eval]) HO2.out.drew ⟨w.heap.size + 1, 0, none⟩ 1 1 [.string key, .string text, .bool num, .pointer none] (by simp [Act.eval]) rfl (by simpa using ent_new (w.alloc (.cells #[.string key, .string text, .bool num, .pointer none] 41)) key text num) (ent_one key text num) (by unfold maxLen; omega) (by omega) (by simp; omega) ?_; intro v' w1 hown' hgrow; obtain ⟨g, cap', rfl, hmn1⟩ := put_after (w := ((w.alloc _).alloc _).drew) HMN2.out HO2.out.drew hown' hgrow; have c01 := cell_of_one hmn1; have f01 := free_of_one hmn1; have HB := hid (And.intro hown' (And.intro hgrow hmn1)); clear hown' hgrow hmn1)
  all_goals
    go_end0
    exact put_done HM.out HO.out.2.2 HB.out

theorem model_step {ps : List Pr} {k : Nat} (h : k < ps.length) : model (ps.take (k + 1)) = putE (model (ps.take k)) (prAt ps k).ent := by
  unfold model
  rw [List.take_succ_eq_append_getElem h, List.map_append, List.foldl_append]
  simp [prAt, h]
theorem model_length (ps : List Pr) : (model ps).length ≤ ps.length := by
  have : ∀ (l : List Ent) (a : List Ent), (l.foldl putE a).length ≤ a.length + l.length := by
    intro l
    induction l with
    | nil => simp
    | cons x r ih =>
      intro a
      have h1 := ih (putE a x)
      have h2 := putE_length_le a x
      simp only [List.foldl_cons, List.length_cons]
      omega
  have := this (ps.map Pr.ent) []
  simpa [model] using this

theorem putEntry_any (S0 mn : Nat) (L : List Ent) (x : Ent) (w : World) (hn : L.length < 4096) (h : ModelIs S0 w mn L) :
    Calls Try.prog 18 #[.pointer (some ⟨mn, 0, none⟩), .agg #[.string x.key, .string x.text, .bool x.num, .pointer none]] w fun e w' => PutPost S0 w mn (putE L x) e w' := by
  cases hf : findE L x.key with
  | none => have := putEntry_miss S0 mn L x w hn h hf; unfold putE; rw [hf]; exact this
  | some i => have := putEntry_hit S0 mn i L x w hn h hf; unfold putE; rw [hf]; exact this

def ModelPost (w : World) (ps : List Pr) (e : Ending) (w' : World) : Prop :=
  ∃ mn, e = .returned (.pointer (some ⟨mn, 0, none⟩)) ∧ ModelIs w.heap.size w' mn (model ps) ∧ Below w.heap.size w w'

set_option maxHeartbeats 8000000 in
theorem modelOf_any (a : Option Addr) (n c : Nat) (ps : List Pr) (w : World) (h : PairRow w a n ps) (hn : n ≤ 4096) :
    Calls Try.prog 9 #[.slice a n c] w fun e w' => ModelPost w ps e w' := by
  have H := hid h
  clear h
  go_enter Try.func9, Try.ntmps9
  go_wp2
  go_loopw [4] (fun i wr => ∃ (k : Nat), k ≤ n ∧ i = .int .i64 k ∧ Hid (ModelIs w.heap.size wr w.heap.size (model (ps.take k)) ∧ Below w.heap.size w wr)) (fun i _ => n - (intOf i).toNat)
  case atStart => exact ⟨0, Nat.zero_le _, rfl, ⟨Nat.le_refl _, _, heap_alloc_new w _, World.ownsRow_nil _ _ _ _⟩, (Below.refl _ _).alloc (Nat.le_refl _) _⟩
  case round =>
    obtain ⟨k, hk, rfl, HR⟩ := hrel
    by_cases hlt : k < n
    · obtain ⟨b, off, rfl, q0, q1, q2, q3⟩ := (H.out.below HR.out.2).2 k hlt
      have hkl : k < ps.length := by rw [H.out.1]; exact hlt
      obtain ⟨pr, hpr⟩ : ∃ pr, pr = prAt ps k := ⟨_, rfl⟩
      rw [← hpr] at q0 q1 q2 q3
      have HP := hid hpr
      clear hpr
      obtain ⟨key, text, num, sca⟩ := pr
      simp only at q0 q1 q2 q3
      have hlen : (model (ps.take k)).length < 4096 := by
        have := model_length (ps.take k)
        rw [List.length_take_of_le (by omega)] at this
        omega
      have HLEN := hid hlen
      clear hlen
      have HRD : Hid (ModelIs w.heap.size wr.drew w.heap.size (model (ps.take k))) := HR.out.1
      go_wp2
      go_region_with (go_at_call 18; refine (putEntry_any w.heap.size w.heap.size (model (ps.take k)) ⟨key, text, num⟩ wr.drew HLEN.out HRD.out).mono ?_; rintro e w2 ⟨rfl, ho, hb⟩; have HO2 := hid ho; have HB2 := hid hb; clear ho hb)
      all_goals
        go_wp2
        go_roundw
        case rel => exact ⟨k + 1, by omega, by go_num, by rw [model_step hkl, ← HP.out]; exact HO2.out, HR.out.2.drew.trans HB2.out⟩
        case measure => simp [intOf]; omega
    · go_wp2
      go_ret
      obtain rfl : k = n := by omega
      exact ⟨_, rfl, by have := HR.out.1; rwa [List.take_of_length_le (by rw [H.out.1]; exact Nat.le_refl _)] at this, HR.out.2⟩
end Go.Proofs.Qxb6613416a
