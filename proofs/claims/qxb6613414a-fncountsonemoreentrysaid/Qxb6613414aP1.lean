import Derived.Test.Qxb6613414aM2
import Derived.ProofKit
import Derived.OpenShut
import Derived.ChangeOld
namespace Go.Proofs.Qxb6613414a
open Go.RowKit Go.WideShapes
section
variable {H : Type} {enc : TypeId × Value → H} {W : World} {spare : Nat → Bool} {held : Bool}

theorem cells9 : Try.prog.cellsOf 9 = 1 := by kernel_rfl
theorem cells59 : Try.prog.cellsOf 59 = 1 := by kernel_rfl
theorem cells62 : Try.prog.cellsOf 62 = 1 := by kernel_rfl
theorem cells4 : Try.prog.cellsOf 4 = 1 := by kernel_rfl
theorem cells58 : Try.prog.cellsOf 58 = 2 := by kernel_rfl

/-- The type of a field of a kind. -/
def kindType (kd : Nat) : Nat := match kd with
  | 0 => 9
  | 1 => 59
  | _ => 62

theorem kindCells (kd : Nat) : Try.prog.cellsOf (kindType kd) = 1 := by
  match kd with
  | 0 => exact cells9
  | 1 => exact cells59
  | _ + 2 => exact cells62

theorem cell_one {a : Addr} {cs : List Value} (h : W.cells? 0 a 1 = some cs) : ∃ v, cs = [v] ∧ W.cell? a = some v := by
  obtain ⟨h1, h2, h3⟩ := World.cells?_some h
  match cs, h2 with
  | [v], _ => exact ⟨v, rfl, by have := h3 0 (by omega); simpa [Addr.add] using this⟩

theorem field_ok (kd n : Nat) (v : Value) (y : DataW H × List MemPlace) (h : DataW.trod enc Try.prog W 0 spare held n (kindType kd) [v] = some y) : FieldOk W kd v := by
  match kd with
  | 0 =>
    obtain ⟨s, hs, _⟩ := DataW.trod_string Try.underlying9 h
    exact ⟨s, by simpa using hs⟩
  | 1 =>
    rcases DataW.trod_pointer Try.underlying59 h with ⟨hc, _⟩ | ⟨a, cs', y', m, _, hc, _, hcs, hy⟩
    · exact .inl (by simpa using hc)
    · rw [cells9] at hcs
      obtain ⟨u, rfl, hu⟩ := cell_one hcs
      obtain ⟨s, hs, _⟩ := DataW.trod_string Try.underlying9 hy
      obtain rfl : u = .string s := by simpa using hs
      obtain ⟨b, o, sp⟩ := a
      obtain rfl : sp = none := World.cell?_spot hu
      exact .inr ⟨b, o, s, by simpa using hc, hu⟩
  | k + 2 =>
    rcases DataW.trod_pointer Try.underlying62 h with ⟨hc, _⟩ | ⟨a, cs', y', m, _, hc, _, hcs, hy⟩
    · exact .inl (by simpa using hc)
    · rw [cells4] at hcs
      obtain ⟨u, rfl, hu⟩ := cell_one hcs
      obtain ⟨s, hs, _⟩ := DataW.trod_bool Try.underlying4 hy
      obtain rfl : u = .bool s := by simpa using hs
      obtain ⟨b, o, sp⟩ := a
      obtain rfl : sp = none := World.cell?_spot hu
      exact .inr ⟨b, o, s, by simpa using hc, hu⟩

theorem row_ok {T TE : TypeId} {fs : Array Field} {kinds : List Nat} (hT : Try.prog.underlying T = some (.slice TE)) (hE : Try.prog.underlying TE = some (.struct fs)) (hC : Try.prog.cellsOf TE = kinds.length) (hpos : 0 < kinds.length) (hlen : fs.size = kinds.length)
    (hF : ∀ (j kd : Nat), kinds[j]? = some kd → ∃ f : Field, fs[j]? = some f ∧ f.offset = j ∧ f.type = kindType kd) {m : Nat} {v : Value} {y : DataW H × List MemPlace} (h : DataW.trod enc Try.prog W 0 spare held m T [v] = some y) :
    ∃ a n c, v = .slice a n c ∧ RowK W kinds a n ∧ n ≤ maxLen ∧ (a = none → n = 0 ∧ c = 0) := by
  rcases DataW.trod_slice hT h with ⟨hc, _⟩ | ⟨a, len, cap, elems, rest, n, _, hc, _, _, hl, hm, hel, hcell, _, _⟩
  · exact ⟨none, 0, 0, by simpa using hc, fun k hk => absurd hk (Nat.not_lt_zero _), Nat.zero_le _, fun _ => ⟨rfl, rfl⟩⟩
  · refine ⟨some a, len, cap, by simpa using hc, fun k hk => ?_, Nat.le_trans hl hm, fun h => by simp at h⟩
    rw [hC] at hcell
    have elem : ∀ i, i < len → ∃ cs z, W.cells? 0 (a.add (i * kinds.length)) kinds.length = some cs ∧ DataW.trod enc Try.prog W 0 spare held n TE cs = some z := by
      intro i hi
      have := hcell i hi
      rw [List.getElem?_eq_getElem (by omega)] at this
      obtain ⟨cs, h1, h2⟩ := Option.bind_eq_some_iff.1 this
      exact ⟨cs, _, h1, h2⟩
    obtain ⟨b, off, sp⟩ := a
    have hsp : sp = none := by
      obtain ⟨cs, z, h1, _⟩ := elem 0 (by omega)
      obtain ⟨_, h2, h3⟩ := World.cells?_some h1
      have := h3 0 (by omega)
      rw [List.getElem?_eq_getElem (by omega)] at this
      have := World.cell?_spot this
      simpa [Addr.add] using this
    subst hsp
    have eadd : ∀ i, (⟨b, off, none⟩ : Addr).add i = ⟨b, off + i, none⟩ := by intro i; unfold Addr.add; split <;> simp_all
    refine ⟨b, off, rfl, fun j kd hj => ?_⟩
    obtain ⟨cs, z, h1, hz⟩ := elem k hk
    obtain ⟨_, h2, h3⟩ := World.cells?_some h1
    have hjl : j < kinds.length := (List.getElem?_eq_some_iff.1 hj).1
    obtain ⟨f, hf, ho, ht⟩ := hF j kd hj
    obtain ⟨xs, m', _, _, _, hxl, hx⟩ := DataW.trod_struct hE hz
    have hxj := hx j f hf
    rw [List.getElem?_eq_getElem (show j < xs.length by omega), ho, ht, kindCells] at hxj
    have hcj := h3 j hjl
    rw [List.getElem?_eq_getElem (show j < cs.length by omega)] at hcj
    have etake : (cs.drop j).take 1 = [cs[j]'(by omega)] := by
      rw [List.drop_eq_getElem_cons (by omega)]; rfl
    rw [etake] at hxj
    refine ⟨cs[j]'(by omega), ?_, field_ok kd m' _ _ hxj⟩
    rw [eadd] at hcj
    have ea2 : (⟨b, off + k * kinds.length, none⟩ : Addr).add j = ⟨b, off + k * kinds.length + j, none⟩ := by unfold Addr.add; split <;> simp_all
    rw [ea2] at hcj
    exact hcj

theorem org_ok {m : Nat} {v : Value} {y : DataW H × List MemPlace} (h : DataW.trod enc Try.prog W 0 spare held m 22 [v] = some y) : ∃ o, v = .pointer o ∧ OrgOk W o := by
  rcases DataW.trod_pointer Try.underlying22 h with ⟨hc, _⟩ | ⟨a, cs', y', m', _, hc, _, hcs, hy⟩
  · exact ⟨none, by simpa using hc, .inl rfl⟩
  · rw [cells58] at hcs
    obtain ⟨_, h2, h3⟩ := World.cells?_some hcs
    match cs', h2 with
    | [u0, u1], _ =>
      obtain ⟨xs, m2, _, _, _, hxl, hx⟩ := DataW.trod_struct Try.underlying58 hy
      have hxl2 : xs.length = 2 := by simpa using hxl
      have x0 : DataW.trod enc Try.prog W 0 spare held m2 9 (([u0, u1].drop 0).take (Try.prog.cellsOf 9)) = xs[0]? := hx 0 _ rfl
      have x1 : DataW.trod enc Try.prog W 0 spare held m2 9 (([u0, u1].drop 1).take (Try.prog.cellsOf 9)) = xs[1]? := hx 1 _ rfl
      rw [List.getElem?_eq_getElem (show 0 < xs.length by omega), cells9] at x0
      rw [List.getElem?_eq_getElem (show 1 < xs.length by omega), cells9] at x1
      obtain ⟨s, hs, _⟩ := DataW.trod_string Try.underlying9 x0
      obtain ⟨t, ht, _⟩ := DataW.trod_string Try.underlying9 x1
      obtain rfl : u0 = .string s := by simpa using hs
      obtain rfl : u1 = .string t := by simpa using ht
      have c0 := h3 0 (by omega)
      have c1 := h3 1 (by omega)
      obtain ⟨b, off, sp⟩ := a
      obtain rfl : sp = none := by
        have := World.cell?_spot c0
        simpa [Addr.add] using this
      exact ⟨_, by simpa using hc, .inr ⟨b, off, s, t, rfl, by simpa [Addr.add] using c0, by simpa [Addr.add] using c1⟩⟩
end
end Go.Proofs.Qxb6613414a
