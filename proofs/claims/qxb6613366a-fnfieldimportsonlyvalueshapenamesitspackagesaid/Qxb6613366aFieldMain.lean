import Derived.Test.Qxb6613366aField
namespace Go.Proofs.Qxb6613366a.Fi
open Go.RowKit

theorem sameB_self (ss : List ByteArray) : sameB ss ss = true := by simp [sameB]

theorem strRow_one {w : World} {g : Nat} {nz : ByteArray} (h : w.cell? ⟨g, 0, none⟩ = some (.string nz)) : StrRow w (some ⟨g, 0, none⟩) 1 [nz] := by
  refine ⟨rfl, fun i hi => ⟨g, 0, rfl, ?_⟩⟩
  obtain rfl : i = 0 := by omega
  exact h

theorem one_same (nz : ByteArray) (ss : List ByteArray) (h : sameB [nz] ss = true) : ss.length = 1 ∧ strAt ss 0 = nz := by
  unfold sameB at h
  rw [decide_eq_true_iff] at h
  subst h
  exact ⟨rfl, rfl⟩

theorem one_not (nz : ByteArray) (ss : List ByteArray) (h : sameB [nz] ss = false) (h1 : ss.length = 1) : strAt ss 0 ≠ nz := by
  unfold sameB at h
  rw [decide_eq_false_iff_not] at h
  match ss, h1 with
  | [x], _ => intro hx; apply h; unfold strAt at hx; simp at hx; rw [hx]


set_option maxHeartbeats 4000000 in
theorem main_A (nz : ByteArray) (a : Option Addr) (n c : Nat) (ss : List ByteArray) (w : World) (h : StrRow w a n ss) (ha : a = none → n = 0 ∧ c = 0) (hz : nz.size ≤ maxLen) (hn : n ≤ maxLen)
    (hnz : nz.toList.isEmpty = true) (hss : True) :
    Calls Try.prog 4 #[.string nz, .slice a n c] w fun e w' => e = .returned (.bool true) ∧ Below w.heap.size w w' := by
  have H := hid h
  have HA := hid ha
  have HSS := hid hss
  clear h ha hss
  go_enter Try.func4, Try.ntmps4
  go_wp2_with fail
  refine (bytes_any nz a n c ss _ H.out hz hn).mono ?_
  rintro e w0 ⟨⟨b, rfl, hb⟩, rfl⟩
  have HB := hid hb
  clear hb hz hn
  cases b with
  | false =>
    go_wp2
    go_ret
    exact ⟨rfl, Below.refl _ _⟩
  | true =>
  obtain ⟨hz, hn, hl⟩ := HB.out rfl
  have HL := hid hl
  clear hl HB
  go_wp2_with fail
  go_loop [5, 7, 23] (fun z _ i => ∃ (k : Nat) (T : Int), k ≤ n ∧ 0 ≤ T ∧ T ≤ 1048576 ∧ i = .int .i64 k ∧ z = .int .i64 T) (fun _ _ i => n - (intOf i).toNat)
  case atStart => exact ⟨0, _, Nat.zero_le _, by omega, by omega, rfl, rfl⟩
  case round =>
    obtain ⟨k, T, hk, hT0, hT1, rfl, rfl⟩ := hrel
    by_cases hlt : k < n
    · obtain ⟨b, off, rfl, hc⟩ := H.out.2 k hlt
      have hsz := HL.out k hlt
      by_cases c5 : 1048576 < T + (16 + (strAt ss k).size)
      · go_wp2
        go_ret
        exact ⟨rfl, Below.refl _ _⟩
      go_wp2
      go_round
      case rel => exact ⟨k + 1, _, by omega, by omega, by omega, by go_num, rfl⟩
      case measure => simp [intOf]; omega
    · go_wp2_with fail
      refine (clone_any a n c ss _ H.out hn HA.out).mono ?_
      rintro e w1 ⟨⟨a1, c1, rfl, hr1, ha1⟩, hb1⟩
      have R1 := hid hr1
      have B1 := hid hb1
      have A1 := hid ha1
      clear hr1 hb1 ha1
      go_wp2_with fail
      refine (clone_any a1 n c1 ss _ R1.out hn A1.out).mono ?_
      rintro e w2 ⟨⟨a2, c2, rfl, hr2, ha2⟩, hb2⟩
      have R2 := hid hr2
      have R12 := hid (R1.out.below hb2)
      have B2 := hid (B1.out.trans (hb2.mono B1.out.size))
      clear hr2 hb2 ha2
      go_wp2_with fail
      go_loopw [9, 10, 11] (fun z i _ wr => ∃ k : Nat, k ≤ 7 ∧ i = .int .i64 k ∧ (k = 0 ∧ z = .int .i64 0 ∨ 0 < k ∧ z = .int .i64 0) ∧ Hid (StrRow wr a1 n ss ∧ StrRow wr a2 n ss ∧ Below w0.heap.size w0 wr)) (fun _ i _ _ => 7 - (intOf i).toNat)
      case atStart => exact ⟨0, by omega, rfl, Or.inl ⟨rfl, rfl⟩, hid ⟨R12.out, R2.out, B2.out⟩⟩
      case round =>
        obtain ⟨k, hk, rfl, hz, hR⟩ := hrel
        by_cases hk7 : k < 7
        · rcases hz with ⟨rfl, rfl⟩ | ⟨hk0, rfl⟩
          · go_wp2_with fail
            refine (newField_any _ nz a1 n c1 _).mono ?_
            rintro e w3 ⟨rfl, hb3⟩
            have B3 := hid hb3
            clear hb3
            go_wp2_with fail
            refine (fieldImports_def _ (by omega) (by omega) nz (fun _ => hnz) a1 n c1 _).mono ?_
            rintro e w4 ⟨rfl, hb4⟩
            have B4 := hid (hR.out.2.2.trans ((B3.out.trans (hb4.mono B3.out.size)).mono hR.out.2.2.size))
            have B4' := hid (B3.out.trans (hb4.mono B3.out.size))
            have RW := hid (hR.out.2.1.below B4'.out)
            have RD := hid (hR.out.1.below B4'.out)
            clear hb4
            go_wp2_with fail
            refine (same_any _ _ n n c1 c2 ss ss _ RD.out RW.out hn hn).mono ?_
            rw [sameB_self]
            rintro e w5 ⟨rfl, m, rfl⟩
            go_wp2
            go_roundw
            case rel => exact ⟨1, by omega, by rfl, Or.inr ⟨by omega, rfl⟩, hid ⟨RD.out, RW.out, below_drewN B4.out m⟩⟩
            case measure => simp [intOf]
          · go_wp2_with fail
            refine (newField_any _ nz a1 n c1 _).mono ?_
            rintro e w3 ⟨rfl, hb3⟩
            have B3 := hid hb3
            clear hb3
            go_wp2_with fail
            refine (fieldImports_def _ (by omega) (by omega) nz (fun _ => hnz) a1 n c1 _).mono ?_
            rintro e w4 ⟨rfl, hb4⟩
            have B4 := hid (hR.out.2.2.trans ((B3.out.trans (hb4.mono B3.out.size)).mono hR.out.2.2.size))
            have B4' := hid (B3.out.trans (hb4.mono B3.out.size))
            have RW := hid (hR.out.2.1.below B4'.out)
            have RD := hid (hR.out.1.below B4'.out)
            clear hb4
            have ek : ((k : Int) == 0) = false := by simp; omega
            go_wp2_with fail
            refine (same_any _ _ n n c1 c2 ss ss _ RD.out RW.out hn hn).mono ?_
            rw [sameB_self]
            rintro e w5 ⟨rfl, m, rfl⟩
            go_wp2
            go_roundw
            case rel => exact ⟨k + 1, by omega, by go_num, Or.inr ⟨by omega, rfl⟩, hid ⟨RD.out, RW.out, below_drewN B4.out m⟩⟩
            case measure => simp [intOf]; omega
        · obtain rfl : k = 7 := by omega
          obtain ⟨rfl⟩ : _ = Value.int .i64 0 := by
            rcases hz with ⟨h, _⟩ | ⟨_, h⟩
            · omega
            · exact h
          go_wp2
          go_ret
          exact ⟨rfl, hR.out.2.2⟩

set_option maxHeartbeats 4000000 in
theorem main_B (nz : ByteArray) (a : Option Addr) (n c : Nat) (ss : List ByteArray) (w : World) (h : StrRow w a n ss) (ha : a = none → n = 0 ∧ c = 0) (hz : nz.size ≤ maxLen) (hn : n ≤ maxLen)
    (hnz : nz.toList.isEmpty = false) (hss : sameB [nz] ss = true) :
    Calls Try.prog 4 #[.string nz, .slice a n c] w fun e w' => e = .returned (.bool true) ∧ Below w.heap.size w w' := by
  have H := hid h
  have HA := hid ha
  have HSS := hid hss
  clear h ha hss
  go_enter Try.func4, Try.ntmps4
  go_wp2_with fail
  refine (bytes_any nz a n c ss _ H.out hz hn).mono ?_
  rintro e w0 ⟨⟨b, rfl, hb⟩, rfl⟩
  have HB := hid hb
  clear hb hz hn
  cases b with
  | false =>
    go_wp2
    go_ret
    exact ⟨rfl, Below.refl _ _⟩
  | true =>
  obtain ⟨hz, hn, hl⟩ := HB.out rfl
  have HL := hid hl
  clear hl HB
  go_wp2_with fail
  go_loop [5, 7, 23] (fun z _ i => ∃ (k : Nat) (T : Int), k ≤ n ∧ 0 ≤ T ∧ T ≤ 1048576 ∧ i = .int .i64 k ∧ z = .int .i64 T) (fun _ _ i => n - (intOf i).toNat)
  case atStart => exact ⟨0, _, Nat.zero_le _, by omega, by omega, rfl, rfl⟩
  case round =>
    obtain ⟨k, T, hk, hT0, hT1, rfl, rfl⟩ := hrel
    by_cases hlt : k < n
    · obtain ⟨b, off, rfl, hc⟩ := H.out.2 k hlt
      have hsz := HL.out k hlt
      by_cases c5 : 1048576 < T + (16 + (strAt ss k).size)
      · go_wp2
        go_ret
        exact ⟨rfl, Below.refl _ _⟩
      go_wp2
      go_round
      case rel => exact ⟨k + 1, _, by omega, by omega, by omega, by go_num, rfl⟩
      case measure => simp [intOf]; omega
    · go_wp2_with fail
      refine (clone_any a n c ss _ H.out hn HA.out).mono ?_
      rintro e w1 ⟨⟨a1, c1, rfl, hr1, ha1⟩, hb1⟩
      have R1 := hid hr1
      have B1 := hid hb1
      have A1 := hid ha1
      clear hr1 hb1 ha1
      go_wp2_with fail
      refine (clone_any a1 n c1 ss _ R1.out hn A1.out).mono ?_
      rintro e w2 ⟨⟨a2, c2, rfl, hr2, ha2⟩, hb2⟩
      have R2 := hid hr2
      have R12 := hid (R1.out.below hb2)
      have B2 := hid (B1.out.trans (hb2.mono B1.out.size))
      clear hr2 hb2 ha2
      go_wp2_with fail
      go_loopw [9, 10, 11] (fun z i _ wr => ∃ k : Nat, k ≤ 7 ∧ i = .int .i64 k ∧ (k = 0 ∧ z = .int .i64 0 ∨ 0 < k ∧ z = .int .i64 0) ∧ Hid (StrRow wr a1 n ss ∧ StrRow wr a2 n ss ∧ Below w0.heap.size w0 wr)) (fun _ i _ _ => 7 - (intOf i).toNat)
      case atStart => exact ⟨0, by omega, rfl, Or.inl ⟨rfl, rfl⟩, hid ⟨R12.out, R2.out, B2.out⟩⟩
      case round =>
        obtain ⟨k, hk, rfl, hz, hR⟩ := hrel
        by_cases hk7 : k < 7
        · rcases hz with ⟨rfl, rfl⟩ | ⟨hk0, rfl⟩
          · go_wp2_with fail
            refine (newField_any _ nz a1 n c1 _).mono ?_
            rintro e w3 ⟨rfl, hb3⟩
            have B3 := hid hb3
            clear hb3
            go_wp2_with fail
            refine (fieldImports_own nz hnz a1 n c1 _).mono ?_
            rintro e w4 ⟨⟨g, rfl, hc⟩, hb4⟩
            have B4 := hid (hR.out.2.2.trans ((B3.out.trans (hb4.mono B3.out.size)).mono hR.out.2.2.size))
            have B4' := hid (B3.out.trans (hb4.mono B3.out.size))
            have RW := hid (hR.out.2.1.below B4'.out)
            have RD := hid (hR.out.1.below B4'.out)
            have RG := hid (strRow_one hc)
            clear hb4
            have ee : (nz.toList == nz.toList) = true := by simp
            go_wp2_with fail
            refine (same_any _ _ 1 n 1 c2 [nz] ss _ RG.out RW.out (by omega) hn).mono ?_
            rw [HSS.out]
            rintro e w5 ⟨rfl, m, rfl⟩
            go_wp2
            go_roundw
            case rel => exact ⟨1, by omega, by rfl, Or.inr ⟨by omega, rfl⟩, hid ⟨RD.out, RW.out, below_drewN B4.out m⟩⟩
            case measure => simp [intOf]
          · go_wp2_with fail
            refine (newField_any _ nz a1 n c1 _).mono ?_
            rintro e w3 ⟨rfl, hb3⟩
            have B3 := hid hb3
            clear hb3
            go_wp2_with fail
            refine (fieldImports_def _ (by omega) (by omega) nz (fun h => by omega) a1 n c1 _).mono ?_
            rintro e w4 ⟨rfl, hb4⟩
            have B4 := hid (hR.out.2.2.trans ((B3.out.trans (hb4.mono B3.out.size)).mono hR.out.2.2.size))
            have B4' := hid (B3.out.trans (hb4.mono B3.out.size))
            have RW := hid (hR.out.2.1.below B4'.out)
            have RD := hid (hR.out.1.below B4'.out)
            clear hb4
            have ek : ((k : Int) == 0) = false := by simp; omega
            go_wp2_with fail
            refine (same_any _ _ n n c1 c2 ss ss _ RD.out RW.out hn hn).mono ?_
            rw [sameB_self]
            rintro e w5 ⟨rfl, m, rfl⟩
            go_wp2
            go_roundw
            case rel => exact ⟨k + 1, by omega, by go_num, Or.inr ⟨by omega, rfl⟩, hid ⟨RD.out, RW.out, below_drewN B4.out m⟩⟩
            case measure => simp [intOf]; omega
        · obtain rfl : k = 7 := by omega
          obtain ⟨rfl⟩ : _ = Value.int .i64 0 := by
            rcases hz with ⟨h, _⟩ | ⟨_, h⟩
            · omega
            · exact h
          obtain ⟨hlen, hst⟩ := one_same nz ss HSS.out
          have hn1 : n = 1 := by have := hR.out.1.1; omega
          subst hn1
          obtain ⟨b, off, hab, hc⟩ := hR.out.2.1.2 0 (by omega)
          subst hab
          rw [hst, Nat.add_zero] at hc
          clear hst hlen
          have ee : (nz.toList == nz.toList) = true := by simp
          go_wp2
          go_ret
          exact ⟨rfl, hR.out.2.2⟩

set_option maxHeartbeats 4000000 in
theorem main_C (nz : ByteArray) (a : Option Addr) (n c : Nat) (ss : List ByteArray) (w : World) (h : StrRow w a n ss) (ha : a = none → n = 0 ∧ c = 0) (hz : nz.size ≤ maxLen) (hn : n ≤ maxLen)
    (hnz : nz.toList.isEmpty = false) (hss : sameB [nz] ss = false) :
    Calls Try.prog 4 #[.string nz, .slice a n c] w fun e w' => e = .returned (.bool true) ∧ Below w.heap.size w w' := by
  have H := hid h
  have HA := hid ha
  have HSS := hid hss
  clear h ha hss
  go_enter Try.func4, Try.ntmps4
  go_wp2_with fail
  refine (bytes_any nz a n c ss _ H.out hz hn).mono ?_
  rintro e w0 ⟨⟨b, rfl, hb⟩, rfl⟩
  have HB := hid hb
  clear hb hz hn
  cases b with
  | false =>
    go_wp2
    go_ret
    exact ⟨rfl, Below.refl _ _⟩
  | true =>
  obtain ⟨hz, hn, hl⟩ := HB.out rfl
  have HL := hid hl
  clear hl HB
  go_wp2_with fail
  go_loop [5, 7, 23] (fun z _ i => ∃ (k : Nat) (T : Int), k ≤ n ∧ 0 ≤ T ∧ T ≤ 1048576 ∧ i = .int .i64 k ∧ z = .int .i64 T) (fun _ _ i => n - (intOf i).toNat)
  case atStart => exact ⟨0, _, Nat.zero_le _, by omega, by omega, rfl, rfl⟩
  case round =>
    obtain ⟨k, T, hk, hT0, hT1, rfl, rfl⟩ := hrel
    by_cases hlt : k < n
    · obtain ⟨b, off, rfl, hc⟩ := H.out.2 k hlt
      have hsz := HL.out k hlt
      by_cases c5 : 1048576 < T + (16 + (strAt ss k).size)
      · go_wp2
        go_ret
        exact ⟨rfl, Below.refl _ _⟩
      go_wp2
      go_round
      case rel => exact ⟨k + 1, _, by omega, by omega, by omega, by go_num, rfl⟩
      case measure => simp [intOf]; omega
    · go_wp2_with fail
      refine (clone_any a n c ss _ H.out hn HA.out).mono ?_
      rintro e w1 ⟨⟨a1, c1, rfl, hr1, ha1⟩, hb1⟩
      have R1 := hid hr1
      have B1 := hid hb1
      have A1 := hid ha1
      clear hr1 hb1 ha1
      go_wp2_with fail
      refine (clone_any a1 n c1 ss _ R1.out hn A1.out).mono ?_
      rintro e w2 ⟨⟨a2, c2, rfl, hr2, ha2⟩, hb2⟩
      have R2 := hid hr2
      have R12 := hid (R1.out.below hb2)
      have B2 := hid (B1.out.trans (hb2.mono B1.out.size))
      clear hr2 hb2 ha2
      go_wp2_with fail
      go_loopw [9, 10, 11] (fun z i _ wr => ∃ k : Nat, k ≤ 7 ∧ i = .int .i64 k ∧ (k = 0 ∧ z = .int .i64 0 ∨ 0 < k ∧ z = .int .i64 1) ∧ Hid (StrRow wr a1 n ss ∧ StrRow wr a2 n ss ∧ Below w0.heap.size w0 wr)) (fun _ i _ _ => 7 - (intOf i).toNat)
      case atStart => exact ⟨0, by omega, rfl, Or.inl ⟨rfl, rfl⟩, hid ⟨R12.out, R2.out, B2.out⟩⟩
      case round =>
        obtain ⟨k, hk, rfl, hz, hR⟩ := hrel
        by_cases hk7 : k < 7
        · rcases hz with ⟨rfl, rfl⟩ | ⟨hk0, rfl⟩
          · go_wp2_with fail
            refine (newField_any _ nz a1 n c1 _).mono ?_
            rintro e w3 ⟨rfl, hb3⟩
            have B3 := hid hb3
            clear hb3
            go_wp2_with fail
            refine (fieldImports_own nz hnz a1 n c1 _).mono ?_
            rintro e w4 ⟨⟨g, rfl, hc⟩, hb4⟩
            have B4 := hid (hR.out.2.2.trans ((B3.out.trans (hb4.mono B3.out.size)).mono hR.out.2.2.size))
            have B4' := hid (B3.out.trans (hb4.mono B3.out.size))
            have RW := hid (hR.out.2.1.below B4'.out)
            have RD := hid (hR.out.1.below B4'.out)
            have RG := hid (strRow_one hc)
            clear hb4
            have ee : (nz.toList == nz.toList) = true := by simp
            go_wp2_with fail
            refine (same_any _ _ 1 n 1 c2 [nz] ss _ RG.out RW.out (by omega) hn).mono ?_
            rw [HSS.out]
            rintro e w5 ⟨rfl, m, rfl⟩
            go_wp2
            go_roundw
            case rel => exact ⟨1, by omega, by rfl, Or.inr ⟨by omega, rfl⟩, hid ⟨RD.out, RW.out, below_drewN B4.out m⟩⟩
            case measure => simp [intOf]
          · go_wp2_with fail
            refine (newField_any _ nz a1 n c1 _).mono ?_
            rintro e w3 ⟨rfl, hb3⟩
            have B3 := hid hb3
            clear hb3
            go_wp2_with fail
            refine (fieldImports_def _ (by omega) (by omega) nz (fun h => by omega) a1 n c1 _).mono ?_
            rintro e w4 ⟨rfl, hb4⟩
            have B4 := hid (hR.out.2.2.trans ((B3.out.trans (hb4.mono B3.out.size)).mono hR.out.2.2.size))
            have B4' := hid (B3.out.trans (hb4.mono B3.out.size))
            have RW := hid (hR.out.2.1.below B4'.out)
            have RD := hid (hR.out.1.below B4'.out)
            clear hb4
            have ek : ((k : Int) == 0) = false := by simp; omega
            go_wp2_with fail
            refine (same_any _ _ n n c1 c2 ss ss _ RD.out RW.out hn hn).mono ?_
            rw [sameB_self]
            rintro e w5 ⟨rfl, m, rfl⟩
            go_wp2
            go_roundw
            case rel => exact ⟨k + 1, by omega, by go_num, Or.inr ⟨by omega, rfl⟩, hid ⟨RD.out, RW.out, below_drewN B4.out m⟩⟩
            case measure => simp [intOf]; omega
        · obtain rfl : k = 7 := by omega
          obtain ⟨rfl⟩ : _ = Value.int .i64 1 := by
            rcases hz with ⟨h, _⟩ | ⟨_, h⟩
            · omega
            · exact h
          by_cases hn1 : n = 1
          · subst hn1
            have hne := one_not nz ss HSS.out hR.out.1.1
            obtain ⟨b, off, hab, hc⟩ := hR.out.2.1.2 0 (by omega)
            subst hab
            rw [Nat.add_zero] at hc
            have ee : ((strAt ss 0).toList == nz.toList) = false := by
              cases h : ((strAt ss 0).toList == nz.toList) with
              | false => rfl
              | true => exact absurd (bytes_eq _ _ h) hne
            clear hne
            go_wp2
            go_ret
            exact ⟨rfl, hR.out.2.2⟩
          · have e1 : ((n : Int) == 1) = false := by simp; omega
            go_wp2
            go_ret
            exact ⟨rfl, hR.out.2.2⟩

set_option maxHeartbeats 1600000 in
theorem walk (nz : ByteArray) (a : Option Addr) (n c : Nat) (ss : List ByteArray) (w : World) (h : StrRow w a n ss) (ha : a = none → n = 0 ∧ c = 0) (hz : nz.size ≤ maxLen) (hn : n ≤ maxLen) :
    Calls Try.prog 4 #[.string nz, .slice a n c] w fun e w' => e = .returned (.bool true) ∧ Below w.heap.size w w' := by
  cases hnz : nz.toList.isEmpty with
  | true => exact main_A nz a n c ss w h ha hz hn hnz trivial
  | false =>
    cases hss : sameB [nz] ss with
    | true => exact main_B nz a n c ss w h ha hz hn hnz hss
    | false => exact main_C nz a n c ss w h ha hz hn hnz hss

end Go.Proofs.Qxb6613366a.Fi
