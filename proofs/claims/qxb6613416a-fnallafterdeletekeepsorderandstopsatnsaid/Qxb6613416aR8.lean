import Derived.Test.Qxb6613416aR7
namespace Go.Proofs.Qxb6613416a
open Go.RowKit Go.Maps

def putAll (M : List Mem) : List Mem := M.foldl putM []
theorem putM_length_le (L : List Mem) (m : Mem) : (putM L m).length ≤ L.length + 1 := by
  unfold putM
  split <;> simp
theorem foldl_putM_length : ∀ (M L : List Mem), (M.foldl putM L).length ≤ L.length + M.length
  | [], L => by simp
  | m :: r, L => by
    have h1 := foldl_putM_length r (putM L m)
    have h2 := putM_length_le L m
    simp only [List.foldl_cons, List.length_cons]
    omega
theorem putAll_length (M : List Mem) : (putAll M).length ≤ M.length := by
  have := foldl_putM_length M []
  simpa [putAll] using this
theorem putAll_succ {M : List Mem} {k : Nat} (h : k < M.length) : putAll (M.take (k + 1)) = putM (putAll (M.take k)) (memAt M k) := by
  unfold putAll
  rw [List.take_succ_eq_append_getElem h, List.foldl_append, memAt_eq h]
  rfl

theorem ObjIs.alloc {S0 : Nat} {w : World} {ob : Nat} {M : List Mem} (h : ObjIs S0 w ob M) (o : Obj) : ObjIs S0 (w.alloc o) ob M := by
  obtain ⟨h1, h2, h3, r, cap, mi, hob, hown, hmi⟩ := h
  refine ⟨h1, h2, h3, r, cap, mi, (heap_alloc_old w o (lt_of_block hob)).trans hob, hown.alloc o, ?_⟩
  rcases hmi with h | ⟨b, D, e, hb, hm, hI⟩
  · exact .inl h
  · exact .inr ⟨b, D, e, hb, hm.alloc o, hI⟩

/-- The new object: empty. -/
theorem ObjIs.new {w w1 : World} {n : Nat} (hown : w1.ownsRow w.heap.size 60 2 (.slice (some ⟨w.heap.size, 0, none⟩) 0 n) 0 []) (hg : w.grownBy w1 none) :
    ObjIs w.heap.size (w1.alloc (.cells #[.slice (some ⟨w.heap.size, 0, none⟩) 0 n, .map none] 58)) w1.heap.size [] :=
  ⟨hg.size, Dist.nil, fun _ hk => absurd hk (Nat.not_lt_zero _), w.heap.size, n, none, heap_alloc_new w1 _, hown.alloc _, .inl rfl⟩

def NewPost (w : World) (M : List Mem) (e : Ending) (w' : World) : Prop :=
  ∃ ob, e = .returned (.pointer (some ⟨ob, 0, none⟩)) ∧ ObjIs w.heap.size w' ob (putAll M) ∧ Below w.heap.size w w'

set_option maxHeartbeats 8000000 in
theorem new_any (B n c : Nat) (M : List Mem) (w : World) (hlen : M.length = n) (hn : n ≤ 4096) (hm : ∀ k, k < n → w.cell? ⟨B, k * 2, none⟩ = some (.string (memAt M k).1.key) ∧ w.cell? ⟨B, k * 2 + 1, none⟩ = some (.iface (memAt M k).2.1 (memAt M k).2.2))
    (hks : ∀ k, k < n → (memAt M k).1.key.size ≤ maxLen) :
    Calls Try.prog 14 #[.slice (some ⟨B, 0, none⟩) n c] w fun e w' => NewPost w M e w' := by
  obtain ⟨i0, hi, hz0, hz1, hz2⟩ := info_parts info60
  have HM := hid hm
  have HK := hid hks
  have HL := hid hlen
  clear hm hks hlen
  go_enter Try.func14, Try.ntmps14
  go_wp2_with (first
    | (at_make; refine wpList_make_own _ rfl _ _ 45 rfl w.heap.size 60 i0 _ 2 Try.underlying45 hi hz0 hz1 .i64 .i64 _ n rfl rfl (by omega) (by rw [hz2]; omega) (by unfold maxLen; omega) (Nat.le_refl _) ?_; intro w1 hown hg; have HOWN := hid hown; have HG := hid hg; clear hown hg)
    | go_in)
  go_loopw [13, 5] (fun i _ wr => ∃ (k : Nat), k ≤ n ∧ i = .int .i64 k ∧ Hid (ObjIs w.heap.size wr w1.heap.size (putAll (M.take k)) ∧ Below w.heap.size w wr)) (fun i _ _ => n - (intOf i).toNat)
  case atStart => exact ⟨0, Nat.zero_le _, rfl, ObjIs.new HOWN.out HG.out, ((Below.refl _ _).grown HG.out (Nat.le_refl _) (fun k hk => by cases hk)).alloc HG.out.size _⟩
  case round =>
    obtain ⟨k, hk, rfl, HR⟩ := hrel
    by_cases hlt : k < n
    · obtain ⟨q0, q1⟩ := HM.out k hlt
      have q0 := cell_on HR.out.2 q0
      have q1 := cell_on HR.out.2 q1
      have hkl : k < M.length := by rw [HL.out]; exact hlt
      obtain ⟨m, hmm⟩ : ∃ m, m = memAt M k := ⟨_, rfl⟩
      have hmk := HK.out k hlt
      rw [← hmm] at q0 q1 hmk
      have HP := hid hmm
      have HMK := hid hmk
      have hlen : (putAll (M.take k)).length < 1048576 := by
        have := putAll_length (M.take k)
        rw [List.length_take_of_le (by omega)] at this
        omega
      have HLEN := hid hlen
      clear hmm hlen hmk
      go_wp2_with (go_at_call 21; refine (put_any w.heap.size w1.heap.size (putAll (M.take k)) m _ (HR.out.1.alloc _) HMK.out HLEN.out).mono ?_; rintro e w2 ⟨rfl, ho, hb⟩; have HO2 := hid ho; have HB2 := hid hb; clear ho hb)
      go_roundw
      case rel => exact ⟨k + 1, by omega, by go_num, by rw [putAll_succ hkl, ← HP.out]; exact HO2.out, (HR.out.2.alloc HR.out.1.size _).trans HB2.out⟩
      case measure => simp [intOf]; omega
    · go_wp2
      go_ret
      obtain rfl : k = n := by omega
      exact ⟨_, rfl, by have := HR.out.1; rwa [List.take_of_length_le (by rw [HL.out]; exact Nat.le_refl _)] at this, HR.out.2⟩

theorem ent_putAll : ∀ (M L : List Mem), ents (M.foldl putM L) = (M.map (·.1)).foldl putE (ents L)
  | [], _ => rfl
  | m :: r, L => by
    simp only [List.foldl_cons, List.map_cons]
    rw [ent_putAll r, ents_putM]

/-- Each member of the object stands for its entry. -/
theorem held_putM {W : World} {L : List Mem} {m : Mem} (hL : ∀ x ∈ L, Held W x.1 (.iface x.2.1 x.2.2)) (hm : Held W m.1 (.iface m.2.1 m.2.2)) : ∀ x ∈ putM L m, Held W x.1 (.iface x.2.1 x.2.2) := by
  intro x hx
  unfold putM at hx
  split at hx
  · rcases List.mem_or_eq_of_mem_set hx with h | rfl
    · exact hL x h
    · exact hm
  · simp at hx
    rcases hx with h | rfl
    · exact hL x h
    · exact hm
theorem held_putAll {W : World} : ∀ (M L : List Mem), (∀ x ∈ L, Held W x.1 (.iface x.2.1 x.2.2)) → (∀ x ∈ M, Held W x.1 (.iface x.2.1 x.2.2)) → ∀ x ∈ M.foldl putM L, Held W x.1 (.iface x.2.1 x.2.2)
  | [], _, hL, _ => hL
  | m :: r, L, hL, hM => held_putAll r (putM L m) (held_putM hL (hM m (by simp))) (fun x hx => hM x (by simp [hx]))

/-- The model's entries of the pairs. -/
def model (ps : List Pr) : List Ent := (ps.map Pr.ent).foldl putE []

def ObjPost (w : World) (ps : List Pr) (e : Ending) (w' : World) : Prop :=
  ∃ (S0 ob : Nat) (M : List Mem), e = .returned (.pointer (some ⟨ob, 0, none⟩)) ∧ w.heap.size ≤ S0 ∧ ObjIs S0 w' ob M ∧ ents M = model ps ∧ (∀ x ∈ M, Held w' x.1 (.iface x.2.1 x.2.2)) ∧ Below w.heap.size w w' ∧
    ∃ w0 : World, w0.heap.size = S0 ∧ Below S0 w0 w' ∧ (∀ x ∈ M, Held w0 x.1 (.iface x.2.1 x.2.2)) ∧ M.length ≤ ps.length

set_option maxHeartbeats 4000000 in
theorem object_any (a : Option Addr) (n c : Nat) (ps : List Pr) (w : World) (h : PairRow w a n ps) (hn : n ≤ 4096) (hks : ∀ k, k < n → (prAt ps k).key.size ≤ maxLen) :
    Calls Try.prog 7 #[.slice a n c] w fun e w' => ObjPost w ps e w' := by
  have H := hid h
  have HK := hid hks
  clear h hks
  go_enter Try.func7, Try.ntmps7
  go_wp2_with (first
    | (go_at_call 15; refine (members_any a n c ps w H.out hn).mono ?_; rintro e w1 ⟨rfl, M, hM⟩; have HM := hid hM; clear hM)
    | (go_at_call 14; refine (new_any w.heap.size n n M w1 HM.out.len hn (fun k hk => by rw [HM.out.own.cellAt _ (by omega), HM.out.own.cellAt _ (by omega)]; exact ⟨flat_key M k (by rw [HM.out.len]; exact hk), flat_val M k (by rw [HM.out.len]; exact hk)⟩) (fun k hk => by rw [HM.out.ent k hk]; exact HK.out k hk)).mono ?_; rintro e w2 ⟨ob, rfl, ho, hb⟩; have HO := hid (And.intro ho hb); clear ho hb))
  go_ret
  have hl := HM.out.len
  have hps := H.out.1
  have hent : M.map (·.1) = ps.map Pr.ent := by
    apply List.ext_getElem
    · simp [hl, hps]
    · intro j h1 h2
      have hj : j < n := by simpa [hl] using h1
      have := HM.out.ent j hj
      rw [memAt_eq (by omega)] at this
      simp only [List.getElem_map]
      rw [this]
      simp [prAt, hps, hj]
  have hheld : ∀ x ∈ M, Held w1 x.1 (.iface x.2.1 x.2.2) := by
    intro x hx
    obtain ⟨j, hj, rfl⟩ := List.getElem_of_mem hx
    have h1 := HM.out.held j (by omega)
    rw [← HM.out.ent j (by omega), memAt_eq hj] at h1
    exact h1
  have hall := held_putAll M [] (fun x hx => by simp at hx) hheld
  exact ⟨w1.heap.size, ob, putAll M, rfl, HM.out.below.size, HO.out.1, by unfold putAll model; rw [ent_putAll, hent]; rfl, fun x hx => (hall x hx).below HO.out.2, HM.out.below.trans (HO.out.2.mono HM.out.below.size), w1, rfl, HO.out.2, hall, by have := putAll_length M; omega⟩
end Go.Proofs.Qxb6613416a
