import Derived.Test.YbulkddemDoorLawModel
namespace Go.Proofs.YbulkddemDoor
open Go.RowKit

theorem base_lt (g : Nat) : minus 131070 g < 131072 := by
  have : 131070 &&& (18446744073709551615 - g) < 2 ^ 17 := Nat.lt_of_le_of_lt (Nat.and_le_left) (by decide)
  exact this
theorem base_even (g : Nat) (h : g < 18446744073709551616) : minus 131070 g % 2 = 0 := by
  have hb := minus_bit 131070 g 0 h (by decide)
  have e : (131070).testBit 0 = false := by decide
  rw [e] at hb
  have : (minus 131070 g).testBit 0 = false := by rw [hb]; rfl
  rw [Nat.testBit_zero] at this
  have := of_decide_eq_false this
  omega
/-- No reserved bit. -/
theorem base_reserved (g : Nat) (h : g < 18446744073709551616) : bits .and .u64 ((minus 131070 g : Nat) : Int) 9223372036854775809 = 0 := by
  have h1 := base_lt g
  have h2 := base_even g h
  have e := u64_and_nat (minus 131070 g) 9223372036854775809 (minus_lt _ _) (by decide)
  refine e.trans ?_
  have : minus 131070 g &&& 9223372036854775809 = 0 := by
    apply Nat.eq_of_testBit_eq
    intro j
    rw [Nat.testBit_and, Nat.zero_testBit]
    by_cases hj : j < 17
    · by_cases h0 : j = 0
      · subst h0
        have : (minus 131070 g).testBit 0 = false := by rw [Nat.testBit_zero]; exact decide_eq_false (by omega)
        rw [this]; rfl
      · have : ∀ i : Nat, i < 17 → ¬ i = 0 → (9223372036854775809).testBit i = false := by decide
        rw [this j hj h0]; simp
    · have : (minus 131070 g).testBit j = false := Nat.testBit_lt_two_pow (Nat.lt_of_lt_of_le (show _ < 2 ^ 17 from h1) (Nat.pow_le_pow_right (by decide) (by omega)))
      rw [this]; rfl
  rw [this]; rfl

set_option maxHeartbeats 400000 in
theorem check_fine (r : Int) (w : World) (h1 : (r != 18446744073709551615) = true) (h2 : (bits .and .u64 r 9223372036854775809 != 0) = false) :
    Calls Ybad.prog 7 #[.int .u64 r] w fun e w' => e = .returned .nilIface ∧ w' = w := by
  go_enter Ybad.func7, Ybad.ntmps7
  go_wp2
  go_ret
  exact ⟨rfl, rfl⟩

set_option maxHeartbeats 400000 in
theorem law_all_zero (w : World) :
    Calls Ybad.prog 4 #[.int .u64 0] w fun e w' => e = .returned (.bool true) ∧ Below w.heap.size w w' := by
  go_enter Ybad.func4, Ybad.ntmps4
  go_wp2_with (first
    | (go_at_call 5; refine (without_zero _ _).mono ?_; rintro e w' ⟨rfl, rfl⟩))
  go_ret
  exact ⟨by simp, Below.refl _ _⟩

set_option maxHeartbeats 400000 in
theorem law_all_some (g : Nat) (w : World) (a : Option Addr) (c : Nat) (hk : w.cell? ⟨1, 0, .none⟩ = some (.slice a 16 c)) (hs : 1 < w.heap.size) (h2 : g < 18446744073709551616) (hg : ((g : Int) == 0) = false) :
    Calls Ybad.prog 4 #[.int .u64 g] w fun e w' => e = .returned (.bool true) ∧ Below w.heap.size w w' := by
  have hm : Hid (bits .andNot .u64 (131070 : Int) (g : Int) = ((minus 131070 g : Nat) : Int)) := minus_eq 131070 g (by decide) h2
  have H2 : Hid (g < 18446744073709551616) := h2
  have hlt : Hid (minus 131070 g < 131072) := base_lt g
  have c1 : (((minus 131070 g : Nat) : Int) != 18446744073709551615) = true := by have := hlt.out; rw [bne_iff_ne]; omega
  have c2 : (((minus 131070 g : Nat) : Int) == 18446744073709551615) = false := by have := hlt.out; exact beq_eq_false_iff_ne.2 (by omega)
  have c3 : (bits .and .u64 ((minus 131070 g : Nat) : Int) 9223372036854775809 != 0) = false := by rw [base_reserved g h2]; rfl
  clear h2
  go_enter Ybad.func4, Ybad.ntmps4
  go_wp2_with (first
    | (go_at_call 5; refine (without_all g _ a c hk hs hg).mono ?_; rw [hm.out]; rintro e w' ⟨rfl, rfl⟩)
    | (go_at_call 7; refine (check_fine _ _ c1 c3).mono ?_; rintro e w' ⟨rfl, rfl⟩))
  go_loop [4] (fun k => ∃ n : Nat, n ≤ 64 ∧ k = .int .u64 n) (fun k => 64 - (intOf k).toNat)
  case atStart => exact ⟨0, by omega, rfl⟩
  case round =>
    obtain ⟨n, hn, rfl⟩ := hrel
    by_cases hlt : n < 64
    · have hb : Hid ((minus 131070 g).testBit n = ((decide (1 ≤ n) && decide (n ≤ 16)) && !g.testBit n)) := by
        have := minus_bit 131070 g n H2.out hlt
        rw [base_bit n hlt] at this
        exact this
      have hbg : Hid (bits .and .u64 (g : Int) (IntKind.u64.wrap ((2 : Int) ^ n)) = 0 ↔ g.testBit n = false) := and_bit_zero g n H2.out hlt
      have hbr : Hid (bits .and .u64 ((minus 131070 g : Nat) : Int) (IntKind.u64.wrap ((2 : Int) ^ n)) = 0 ↔ (minus 131070 g).testBit n = false) := and_bit_zero _ n (minus_lt _ _) hlt
      by_cases hin : 1 ≤ n ∧ n ≤ 16
      · obtain ⟨i1, i2⟩ := hin
        have d1 : decide ((1 : Int) ≤ n) = true := by simp; omega
        have d2 : decide ((n : Int) ≤ 16) = true := by simp; omega
        by_cases hgb : g.testBit n = false
        · have q1 : (bits .and .u64 (g : Int) (IntKind.u64.wrap ((2 : Int) ^ n)) == 0) = true := by rw [hbg.out.2 hgb]; rfl
          have q2 : (bits .and .u64 ((minus 131070 g : Nat) : Int) (IntKind.u64.wrap ((2 : Int) ^ n)) != 0) = true := by
            rw [bne_iff_ne]; intro e; have := hbr.out.1 e; rw [hb.out, hgb] at this; simp [i1, i2] at this
          clear hgb
          go_wp2
          exact ⟨⟨n + 1, by omega, rfl⟩, meas n hlt⟩
        · have hgt : g.testBit n = true := by simpa using hgb
          have q1 : (bits .and .u64 (g : Int) (IntKind.u64.wrap ((2 : Int) ^ n)) == 0) = false := by rw [beq_eq_false_iff_ne]; intro e; exact hgb (hbg.out.1 e)
          have q2 : (bits .and .u64 ((minus 131070 g : Nat) : Int) (IntKind.u64.wrap ((2 : Int) ^ n)) != 0) = false := by
            rw [hbr.out.2 (by rw [hb.out, hgt]; simp)]; rfl
          clear hgb hgt
          go_wp2
          exact ⟨⟨n + 1, by omega, rfl⟩, meas n hlt⟩
      · have q2 : (bits .and .u64 ((minus 131070 g : Nat) : Int) (IntKind.u64.wrap ((2 : Int) ^ n)) != 0) = false := by
          have : (decide (1 ≤ n) && decide (n ≤ 16)) = false := by simp; omega
          rw [hbr.out.2 (by rw [hb.out, this]; rfl)]; rfl
        by_cases i1 : 1 ≤ n
        · have d1 : decide ((1 : Int) ≤ n) = true := by simp; omega
          have d2 : decide ((n : Int) ≤ 16) = false := by simp; omega
          clear hin
          go_wp2
          exact ⟨⟨n + 1, by omega, rfl⟩, meas n hlt⟩
        · have d1 : decide ((1 : Int) ≤ n) = false := by simp; omega
          clear hin
          go_wp2
          exact ⟨⟨n + 1, by omega, rfl⟩, meas n hlt⟩
    · go_wp2
      go_ret
      exact ⟨rfl, (Below.refl _ _).alloc (Nat.le_refl _) _⟩

/-- LawS5225BAllMinus's call, whatever the input, where 'kinds' reads as a slice of sixteen. -/
theorem law_all (g : Nat) (w : World) (a : Option Addr) (c : Nat) (hk : w.cell? ⟨1, 0, .none⟩ = some (.slice a 16 c)) (hs : 1 < w.heap.size) (h2 : g < 18446744073709551616) :
    Calls Ybad.prog 4 #[.int .u64 g] w fun e w' => e = .returned (.bool true) ∧ Below w.heap.size w w' := by
  by_cases e0 : g = 0
  · subst e0; exact law_all_zero w
  · exact law_all_some g w a c hk hs h2 (beq_eq_false_iff_ne.2 (by omega))

end Go.Proofs.YbulkddemDoor
