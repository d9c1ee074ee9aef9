import Derived.Laws.BitsAllLaws
namespace Go.Proofs.YbulkddemDoor

theorem wrap_pow (n : Nat) (h : n < 64) : IntKind.u64.wrap ((2 : Int) ^ n) = ((2 ^ n : Nat) : Int) := by
  have h1 : (2 : Nat) ^ n < 2 ^ 64 := Nat.pow_lt_pow_right (by omega) h
  have e : (2 : Int) ^ n = ((2 ^ n : Nat) : Int) := by rw [Int.natCast_pow]; rfl
  rw [e, IntKind.wrap_u64]
  generalize 2 ^ n = m at *
  omega

theorem mod_succ (x n : Nat) : x % 2 ^ (n + 1) = x % 2 ^ n + 2 ^ n * (x.testBit n).toNat := by
  rw [Nat.toNat_testBit, Nat.mod_pow_succ]

theorem and_pow (x n : Nat) : x &&& 2 ^ n = 2 ^ n * (x.testBit n).toNat := by
  apply Nat.eq_of_testBit_eq
  intro j
  rw [Nat.testBit_and, Nat.testBit_two_pow]
  by_cases h : n = j
  · subst h
    cases hb : x.testBit n <;> simp
  · cases hb : x.testBit n <;> simp [h]

/-- 'x & (1 << n)', as the walk writes it. -/
theorem and_bit (x n : Nat) (hx : x < 18446744073709551616) (h : n < 64) :
    bits .and .u64 (x : Int) (IntKind.u64.wrap ((2 : Int) ^ n)) = ((2 ^ n * (x.testBit n).toNat : Nat) : Int) := by
  have h1 : (2 : Nat) ^ n < 2 ^ 64 := Nat.pow_lt_pow_right (by omega) h
  rw [wrap_pow n h, u64_and_nat x (2 ^ n) hx (by omega), and_pow]

theorem and_bit_zero (x n : Nat) (hx : x < 18446744073709551616) (h : n < 64) :
    bits .and .u64 (x : Int) (IntKind.u64.wrap ((2 : Int) ^ n)) = 0 ↔ x.testBit n = false := by
  rw [and_bit x n hx h]
  have hp : 0 < 2 ^ n := Nat.two_pow_pos n
  generalize 2 ^ n = m at hp
  cases hb : x.testBit n
  · simp
  · simp; omega

/-- What 'f &^ g' is. -/
def minus (f g : Nat) : Nat := f &&& (18446744073709551615 - g)

theorem minus_eq (f g : Nat) (hf : f < 18446744073709551616) (hg : g < 18446744073709551616) : bits .andNot .u64 (f : Int) (g : Int) = ((minus f g : Nat) : Int) :=
  u64_andNot_nat f g hf hg
theorem minus_lt (f g : Nat) : minus f g < 18446744073709551616 := by
  have : f &&& (18446744073709551615 - g) < 2 ^ 64 := Nat.and_lt_two_pow _ (by omega)
  exact this
theorem minus_bit (f g n : Nat) (hg : g < 18446744073709551616) (h : n < 64) : (minus f g).testBit n = (f.testBit n && !g.testBit n) := by
  unfold minus
  have e : 18446744073709551615 - g = 2 ^ 64 - (g + 1) := by omega
  rw [Nat.testBit_and, e, Nat.testBit_two_pow_sub_succ (by omega)]
  simp [h]

theorem mod_all (x : Nat) (h : x < 18446744073709551616) : x % 2 ^ 64 = x := Nat.mod_eq_of_lt (by omega)

theorem step_no (x n : Nat) (h : x.testBit n = false) : x % 2 ^ n = x % 2 ^ (n + 1) := by
  rw [mod_succ, h]; simp
theorem step_yes (x n : Nat) (hn : n < 64) (h : x.testBit n = true) :
    bits .or .u64 ((x % 2 ^ n : Nat) : Int) (IntKind.u64.wrap ((2 : Int) ^ n)) = ((x % 2 ^ (n + 1) : Nat) : Int) := by
  have h1 : (2 : Nat) ^ n < 2 ^ 64 := Nat.pow_lt_pow_right (by omega) hn
  have h2 : x % 2 ^ n < 2 ^ n := Nat.mod_lt _ (Nat.two_pow_pos n)
  rw [wrap_pow n hn, u64_or_nat _ _ (by omega) (by omega), mod_succ, h]
  congr 1
  rw [Nat.or_comm, nat_join n (2 ^ n) (x % 2 ^ n) (Nat.mod_self _) h2]
  simp; omega

theorem base_bit : ∀ n : Nat, n < 64 → (131070).testBit n = (decide (1 ≤ n) && decide (n ≤ 16)) := by decide

end Go.Proofs.YbulkddemDoor
