import Derived.Test.YbulkddemDoorLawWalks
import Derived.Test.YbulkddemDoorLawPlain
namespace Go.Proofs.YbulkddemDoor
open Go.RowKit

theorem int_eq {k : IntKind} {a b : Int} (h : a = b) : Value.int k a = .int k b := by rw [h]
theorem ret_int {k : IntKind} {a b : Int} (h : a = b) : Ending.returned (.int k a) = .returned (.int k b) := by rw [h]
theorem meas (n : Nat) (h : n < 64) : 64 - (intOf (Value.int IntKind.u64 ((n : Int) + 1))).toNat < 64 - (intOf (Value.int IntKind.u64 (n : Int))).toNat := by
  simp [intOf]; omega

/-- The rounds' ends. -/
theorem end_no (x n : Nat) (h : x.testBit n = false) (hn : n < 64) :
    (∃ n_1 : Nat, n_1 ≤ 64 ∧ Value.int IntKind.u64 ((n : Int) + 1) = .int .u64 (n_1 : Int) ∧ Value.int IntKind.u64 ((x % 2 ^ n : Nat) : Int) = .int .u64 ((x % 2 ^ n_1 : Nat) : Int)) ∧
      64 - (intOf (Value.int IntKind.u64 ((n : Int) + 1))).toNat < 64 - (intOf (Value.int IntKind.u64 (n : Int))).toNat :=
  ⟨⟨n + 1, by omega, rfl, by rw [step_no x n h]⟩, meas n hn⟩
theorem end_yes (x n : Nat) (h : x.testBit n = true) (hn : n < 64) :
    (∃ n_1 : Nat, n_1 ≤ 64 ∧ Value.int IntKind.u64 ((n : Int) + 1) = .int .u64 (n_1 : Int) ∧ Value.int IntKind.u64 (bits .or .u64 ((x % 2 ^ n : Nat) : Int) (IntKind.u64.wrap (2 ^ n))) = .int .u64 ((x % 2 ^ n_1 : Nat) : Int)) ∧
      64 - (intOf (Value.int IntKind.u64 ((n : Int) + 1))).toNat < 64 - (intOf (Value.int IntKind.u64 (n : Int))).toNat :=
  ⟨⟨n + 1, by omega, rfl, by rw [step_yes x n hn h]⟩, meas n hn⟩

def modn (x n : Nat) : Int := ((x % 2 ^ n : Nat) : Int)

set_option maxHeartbeats 400000 in
theorem model_some (f g : Nat) (w : World) (h1 : f < 18446744073709551616) (h2 : g < 18446744073709551616) (hg : ((g : Int) == 0) = false) (hf : ((f : Int) == 18446744073709551615) = false) :
    Calls Ybad.prog 6 #[.int .u64 f, .int .u64 g] w fun e w' => e = .returned (.int .u64 (minus f g : Nat)) ∧ w' = w := by
  have H1 : Hid (f < 18446744073709551616) := h1
  have H2 : Hid (g < 18446744073709551616) := h2
  clear h1 h2
  go_enter Ybad.func6, Ybad.ntmps6
  go_wp2
  go_loop [5, 6] (fun r k => ∃ n : Nat, n ≤ 64 ∧ k = .int .u64 n ∧ r = .int .u64 (modn (minus f g) n)) (fun _ k => 64 - (intOf k).toNat)
  case atStart => exact ⟨0, by omega, rfl, by simp [modn, Nat.mod_one]⟩
  case round =>
    obtain ⟨n, hn, rfl, rfl⟩ := hrel
    by_cases hlt : n < 64
    · have hb : Hid ((minus f g).testBit n = (f.testBit n && !g.testBit n)) := minus_bit f g n H2.out hlt
      have hbf : Hid (bits .and .u64 (f : Int) (IntKind.u64.wrap ((2 : Int) ^ n)) = 0 ↔ f.testBit n = false) := and_bit_zero f n H1.out hlt
      have hbg : Hid (bits .and .u64 (g : Int) (IntKind.u64.wrap ((2 : Int) ^ n)) = 0 ↔ g.testBit n = false) := and_bit_zero g n H2.out hlt
      go_wp2
      · have : (minus f g).testBit n = false := by rw [hb.out, hbf.out.1 (by assumption)]; rfl
        exact end_no _ _ this hlt
      · rename_i _ hh
        have q1 : f.testBit n = true := by
          have : ¬ f.testBit n = false := fun e => (bne_iff_ne.1 hh.1) (hbf.out.2 e)
          simpa using this
        have q2 : g.testBit n = false := hbg.out.1 (by simpa using hh.2)
        exact end_yes _ _ (by rw [hb.out, q1, q2]; rfl) hlt
      · rename_i _ hh
        have : (minus f g).testBit n = false := by
          rw [hb.out]
          rcases hh with h | h
          · rw [hbf.out.1 (by simpa using h)]; rfl
          · have : ¬ g.testBit n = false := fun e => by simp [hbg.out.2 e] at h
            have q : g.testBit n = true := by simpa using this
            rw [q]; simp
        exact end_no _ _ this hlt
    · have e : n = 64 := by omega
      subst e
      go_wp2
      go_ret
      exact ⟨ret_int (by simp [modn, mod_all _ (minus_lt f g)]), rfl⟩

set_option maxHeartbeats 400000 in
theorem model_all (g : Nat) (w : World) (h2 : g < 18446744073709551616) (hg : ((g : Int) == 0) = false) :
    Calls Ybad.prog 6 #[.int .u64 18446744073709551615, .int .u64 g] w fun e w' => e = .returned (.int .u64 (minus 131070 g : Nat)) ∧ w' = w := by
  have H2 : Hid (g < 18446744073709551616) := h2
  clear h2
  go_enter Ybad.func6, Ybad.ntmps6
  go_wp2
  go_loop [5, 6] (fun r k => ∃ n : Nat, n ≤ 64 ∧ k = .int .u64 n ∧ r = .int .u64 (modn (minus 131070 g) n)) (fun _ k => 64 - (intOf k).toNat)
  case atStart => exact ⟨0, by omega, rfl, by simp [modn, Nat.mod_one]⟩
  case round =>
    obtain ⟨n, hn, rfl, rfl⟩ := hrel
    by_cases hlt : n < 64
    · have hb : Hid ((minus 131070 g).testBit n = ((decide (1 ≤ n) && decide (n ≤ 16)) && !g.testBit n)) := by
        have := minus_bit 131070 g n H2.out hlt
        rw [base_bit n hlt] at this
        exact this
      have hbg : Hid (bits .and .u64 (g : Int) (IntKind.u64.wrap ((2 : Int) ^ n)) = 0 ↔ g.testBit n = false) := and_bit_zero g n H2.out hlt
      by_cases hin : 1 ≤ n ∧ n ≤ 16
      · obtain ⟨i1, i2⟩ := hin
        have d1 : decide ((1 : Int) ≤ n) = true := by simp; omega
        have d2 : decide ((n : Int) ≤ 16) = true := by simp; omega
        go_wp2
        · rename_i hh
          exact end_yes _ _ (by rw [hb.out, hbg.out.1 (by simpa using hh)]; simp [i1, i2]) hlt
        · rename_i hh
          have : ¬ g.testBit n = false := fun e => by simp [hbg.out.2 e] at hh
          have q : g.testBit n = true := by simpa using this
          exact end_no _ _ (by rw [hb.out, q]; simp) hlt
      · have hz : Hid ((minus 131070 g).testBit n = false) := by
          show _ = false
          rw [hb.out]
          have : (decide (1 ≤ n) && decide (n ≤ 16)) = false := by simp; omega
          rw [this]; rfl
        by_cases i1 : 1 ≤ n
        · have d1 : decide ((1 : Int) ≤ n) = true := by simp; omega
          have d2 : decide ((n : Int) ≤ 16) = false := by simp; omega
          clear hin
          go_wp2
          all_goals exact end_no _ _ hz.out hlt
        · have d1 : decide ((1 : Int) ≤ n) = false := by simp; omega
          clear hin
          go_wp2
          all_goals exact end_no _ _ hz.out hlt
    · have e : n = 64 := by omega
      subst e
      go_wp2
      go_ret
      exact ⟨ret_int (by simp [modn, mod_all _ (minus_lt 131070 g)]), rfl⟩

set_option maxHeartbeats 400000 in
theorem law_model_zero (f : Nat) (w : World) :
    Calls Ybad.prog 3 #[.int .u64 f, .int .u64 0] w fun e w' => e = .returned (.bool true) ∧ Below w.heap.size w w' := by
  go_enter Ybad.func3, Ybad.ntmps3
  go_wp2_with (first
    | (go_at_call 5; refine (without_zero f _).mono ?_; rintro e w' ⟨rfl, rfl⟩)
    | (go_at_call 6; refine (model_zero f _).mono ?_; rintro e w' ⟨rfl, rfl⟩))
  go_ret
  exact ⟨by simp, Below.refl _ _⟩

set_option maxHeartbeats 400000 in
theorem law_model_some (f g : Nat) (w : World) (h1 : f < 18446744073709551616) (h2 : g < 18446744073709551616) (hg : ((g : Int) == 0) = false) (hf : ((f : Int) == 18446744073709551615) = false) :
    Calls Ybad.prog 3 #[.int .u64 f, .int .u64 g] w fun e w' => e = .returned (.bool true) ∧ Below w.heap.size w w' := by
  have hm : Hid (bits .andNot .u64 (f : Int) (g : Int) = ((minus f g : Nat) : Int)) := minus_eq f g h1 h2
  go_enter Ybad.func3, Ybad.ntmps3
  go_wp2_with (first
    | (go_at_call 5; refine (without_some f g _ hg hf).mono ?_; rw [hm.out]; rintro e w' ⟨rfl, rfl⟩)
    | (go_at_call 6; refine (model_some f g _ h1 h2 hg hf).mono ?_; rintro e w' ⟨rfl, rfl⟩))
  go_ret
  exact ⟨by simp, Below.refl _ _⟩

set_option maxHeartbeats 400000 in
theorem law_model_all (g : Nat) (w : World) (a : Option Addr) (c : Nat) (hk : w.cell? ⟨1, 0, .none⟩ = some (.slice a 16 c)) (hs : 1 < w.heap.size) (h2 : g < 18446744073709551616) (hg : ((g : Int) == 0) = false) :
    Calls Ybad.prog 3 #[.int .u64 18446744073709551615, .int .u64 g] w fun e w' => e = .returned (.bool true) ∧ Below w.heap.size w w' := by
  have hm : Hid (bits .andNot .u64 (131070 : Int) (g : Int) = ((minus 131070 g : Nat) : Int)) := minus_eq 131070 g (by decide) h2
  go_enter Ybad.func3, Ybad.ntmps3
  go_wp2_with (first
    | (go_at_call 5; refine (without_all g _ a c hk hs hg).mono ?_; rw [hm.out]; rintro e w' ⟨rfl, rfl⟩)
    | (go_at_call 6; refine (model_all g _ h2 hg).mono ?_; rintro e w' ⟨rfl, rfl⟩))
  go_ret
  exact ⟨by simp, (Below.refl _ _).alloc (Nat.le_refl _) _⟩

/-- LawS5225BModel's call, whatever the input, where 'kinds' reads as a slice of sixteen. -/
theorem law_model (f g : Nat) (w : World) (a : Option Addr) (c : Nat) (hk : w.cell? ⟨1, 0, .none⟩ = some (.slice a 16 c)) (hs : 1 < w.heap.size) (h1 : f < 18446744073709551616) (h2 : g < 18446744073709551616) :
    Calls Ybad.prog 3 #[.int .u64 f, .int .u64 g] w fun e w' => e = .returned (.bool true) ∧ Below w.heap.size w w' := by
  by_cases e0 : g = 0
  · subst e0; exact law_model_zero f w
  · have hg : ((g : Int) == 0) = false := beq_eq_false_iff_ne.2 (by omega)
    by_cases e1 : f = 18446744073709551615
    · subst e1; exact law_model_all g w a c hk hs h2 hg
    · exact law_model_some f g w h1 h2 hg (beq_eq_false_iff_ne.2 (by omega))

end Go.Proofs.YbulkddemDoor
