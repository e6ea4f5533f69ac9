import Derived.Test.Qxb6613416aS5
import Derived.ProofKit
import Derived.OpenShut
import Derived.ShutString
import Derived.ChangeOld
namespace Go.Proofs.Qxb6613416a
open Go.RowKit Go.WideShapes
section
variable {H : Type} {enc : TypeId × Value → H} {W : World} {spare : Nat → Bool} {held : Bool}

theorem cells9 : Try.prog.cellsOf 9 = 1 := by kernel_rfl
theorem cells4 : Try.prog.cellsOf 4 = 1 := by kernel_rfl
theorem cells43 : Try.prog.cellsOf 43 = 4 := by kernel_rfl

/-- The slice of pairs, as it comes in. -/
theorem pairs_ok {m : Nat} {v : Value} {y : DataW H × List MemPlace} (h : DataW.trod enc Try.prog W 0 spare held m 22 [v] = some y) :
    ∃ a n c ps, v = .slice a n c ∧ PairRow W a n ps ∧ n ≤ maxLen ∧ ∀ k, k < n → (prAt ps k).key.size ≤ maxLen := by
  rcases DataW.trod_slice Try.underlying22 h with ⟨hc, _⟩ | ⟨a, len, cap, elems, rest, n, _, hc, _, _, hl, hm, hel, hcell, _, _⟩
  · exact ⟨none, 0, 0, [], by simpa using hc, ⟨rfl, fun k hk => absurd hk (Nat.not_lt_zero _)⟩, Nat.zero_le _, fun k hk => absurd hk (Nat.not_lt_zero _)⟩
  · rw [cells43] at hcell
    have elem : ∀ i, i < len → ∃ cs z, W.cells? 0 (a.add (i * 4)) 4 = some cs ∧ DataW.trod enc Try.prog W 0 spare held n 43 cs = some z := by
      intro i hi
      have := hcell i hi
      rw [List.getElem?_eq_getElem (by omega)] at this
      obtain ⟨cs, h1, h2⟩ := Option.bind_eq_some_iff.1 this
      exact ⟨cs, _, h1, h2⟩
    obtain ⟨b, off, sp⟩ := a
    have one : ∀ k, ∃ p : Pr, k < len → sp = none ∧ p.key.size ≤ maxLen ∧ W.cell? ⟨b, off + k * 4, none⟩ = some (.string p.key) ∧ W.cell? ⟨b, off + k * 4 + 1, none⟩ = some (.string p.text) ∧ W.cell? ⟨b, off + k * 4 + 2, none⟩ = some (.bool p.num) ∧ W.cell? ⟨b, off + k * 4 + 3, none⟩ = some (.bool p.sca) := by
      intro k
      by_cases hk : k < len
      · obtain ⟨cs, z, h1, hz⟩ := elem k hk
        obtain ⟨_, h2, h3⟩ := World.cells?_some h1
        match cs, h2 with
        | [u0, u1, u2, u3], _ =>
          have hsp : sp = none := by
            obtain ⟨cs, z, h1, _⟩ := elem 0 (by omega)
            obtain ⟨_, h2, h3⟩ := World.cells?_some h1
            have := h3 0 (by omega)
            rw [List.getElem?_eq_getElem (by omega)] at this
            have := World.cell?_spot this
            simpa [Addr.add] using this
          subst hsp
          obtain ⟨xs, m2, _, _, _, hxl, hx⟩ := DataW.trod_struct Try.underlying43 hz
          have hxl2 : xs.length = 4 := by simpa using hxl
          have x0 : DataW.trod enc Try.prog W 0 spare held m2 9 (([u0, u1, u2, u3].drop 0).take (Try.prog.cellsOf 9)) = xs[0]? := hx 0 _ rfl
          have x1 : DataW.trod enc Try.prog W 0 spare held m2 9 (([u0, u1, u2, u3].drop 1).take (Try.prog.cellsOf 9)) = xs[1]? := hx 1 _ rfl
          have x2 : DataW.trod enc Try.prog W 0 spare held m2 4 (([u0, u1, u2, u3].drop 2).take (Try.prog.cellsOf 4)) = xs[2]? := hx 2 _ rfl
          have x3 : DataW.trod enc Try.prog W 0 spare held m2 4 (([u0, u1, u2, u3].drop 3).take (Try.prog.cellsOf 4)) = xs[3]? := hx 3 _ rfl
          rw [List.getElem?_eq_getElem (show 0 < xs.length by omega), cells9] at x0
          rw [List.getElem?_eq_getElem (show 1 < xs.length by omega), cells9] at x1
          rw [List.getElem?_eq_getElem (show 2 < xs.length by omega), cells4] at x2
          rw [List.getElem?_eq_getElem (show 3 < xs.length by omega), cells4] at x3
          obtain ⟨s, hs, _, hsz⟩ := DataW.trod_string Try.underlying9 x0
          obtain ⟨t, ht, _⟩ := DataW.trod_string Try.underlying9 x1
          obtain ⟨p, hp, _⟩ := DataW.trod_bool Try.underlying4 x2
          obtain ⟨q, hq, _⟩ := DataW.trod_bool Try.underlying4 x3
          obtain rfl : u0 = .string s := by simpa using hs
          obtain rfl : u1 = .string t := by simpa using ht
          obtain rfl : u2 = .bool p := by simpa using hp
          obtain rfl : u3 = .bool q := by simpa using hq
          have c0 := h3 0 (by omega)
          have c1 := h3 1 (by omega)
          have c2 := h3 2 (by omega)
          have c3 := h3 3 (by omega)
          have eadd : ∀ o i, (⟨b, o, none⟩ : Addr).add i = ⟨b, o + i, none⟩ := by intro o i; unfold Addr.add; split <;> simp_all
          simp only [eadd, Nat.add_zero] at c0 c1 c2 c3
          exact ⟨⟨s, t, p, q⟩, fun _ => ⟨rfl, hsz, c0, c1, c2, c3⟩⟩
      · exact ⟨noPr, fun h => absurd h hk⟩
    have hf := fun k => Classical.choose_spec (one k)
    generalize hg : (fun k => Classical.choose (one k)) = f
    have hf' : ∀ k, k < len → sp = none ∧ (f k).key.size ≤ maxLen ∧ W.cell? ⟨b, off + k * 4, none⟩ = some (.string (f k).key) ∧ W.cell? ⟨b, off + k * 4 + 1, none⟩ = some (.string (f k).text) ∧ W.cell? ⟨b, off + k * 4 + 2, none⟩ = some (.bool (f k).num) ∧ W.cell? ⟨b, off + k * 4 + 3, none⟩ = some (.bool (f k).sca) := by
      intro k hk
      subst hg
      exact hf k hk
    have hat : ∀ k, k < len → prAt ((List.range len).map f) k = f k := by
      intro k hk
      simp [prAt, hk]
    refine ⟨some ⟨b, off, sp⟩, len, cap, (List.range len).map f, by simpa using hc, ⟨by simp, fun k hk => ?_⟩, Nat.le_trans hl hm, fun k hk => ?_⟩
    · obtain ⟨rfl, _, c0, c1, c2, c3⟩ := hf' k hk
      rw [hat k hk]
      exact ⟨b, off, rfl, c0, c1, c2, c3⟩
    · rw [hat k hk]; exact (hf' k hk).2.1
end
end Go.Proofs.Qxb6613416a
