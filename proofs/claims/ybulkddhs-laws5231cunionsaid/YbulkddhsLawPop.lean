import Derived.Laws.BitsAllLaws
namespace Go.Proofs.Ybulkddhs

/-- How many of the 64 bits of x are set. -/
def pop (x : Nat) : Nat := (List.range 64).countP fun i => x.testBit i

theorem and_split (j a c x y : Nat) (ha : a < 2 ^ j) (hc : c < 2 ^ j) : (a + 2 ^ j * x) &&& (c + 2 ^ j * y) = (a &&& c) + 2 ^ j * (x &&& y) := by
  have h3 : a &&& c < 2 ^ j := Nat.and_lt_two_pow _ hc
  apply Nat.eq_of_testBit_eq
  intro i
  rw [Nat.testBit_and, Nat.add_comm a, Nat.add_comm c, Nat.add_comm (a &&& c), Nat.testBit_two_pow_mul_add _ ha, Nat.testBit_two_pow_mul_add _ hc, Nat.testBit_two_pow_mul_add _ h3]
  split <;> rw [Nat.testBit_and]

/-- The sum of the first n digits to the base B. -/
def DS (B : Nat) : Nat → Nat → Nat
  | 0, _ => 0
  | n + 1, x => x % B + DS B n (x / B)

/-- The first n digits to the base B are at most c. -/
def AllDig (B c : Nat) : Nat → Nat → Prop
  | 0, _ => True
  | n + 1, x => x % B ≤ c ∧ AllDig B c n (x / B)

/-- m pairs of fields of k bits, the lower one of each pair set. -/
def msk (k : Nat) : Nat → Nat
  | 0 => 0
  | m + 1 => (2 ^ k - 1) + 2 ^ (2 * k) * msk k m

def stp (k m x : Nat) : Nat := (x / 2 ^ k &&& msk k m) + (x &&& msk k m)

theorem and_low (k x y : Nat) : (x &&& ((2 ^ k - 1) + 2 ^ (2 * k) * y)) = x % 2 ^ k + 2 ^ (2 * k) * (x / 2 ^ (2 * k) &&& y) := by
  have hp : 0 < 2 ^ k := Nat.two_pow_pos k
  have h2 : 2 ^ (2 * k) = 2 ^ k * 2 ^ k := by rw [Nat.two_mul, Nat.pow_add]
  have hle : 2 ^ k ≤ 2 ^ (2 * k) := Nat.pow_le_pow_right (by decide) (by omega)
  have hx : x = x % 2 ^ (2 * k) + 2 ^ (2 * k) * (x / 2 ^ (2 * k)) := (Nat.mod_add_div _ _).symm
  have h0 : (x &&& ((2 ^ k - 1) + 2 ^ (2 * k) * y)) = ((x % 2 ^ (2 * k) + 2 ^ (2 * k) * (x / 2 ^ (2 * k))) &&& ((2 ^ k - 1) + 2 ^ (2 * k) * y)) := by rw [← hx]
  rw [h0, and_split (2 * k) _ _ _ _ (Nat.mod_lt _ (Nat.two_pow_pos _)) (by omega), Nat.and_two_pow_sub_one_eq_mod]
  congr 1
  rw [h2, Nat.mod_mul_right_mod]

theorem stp_succ (k m x : Nat) : stp k (m + 1) x = (x % 2 ^ k + x / 2 ^ k % 2 ^ k) + 2 ^ (2 * k) * stp k m (x / 2 ^ (2 * k)) := by
  unfold stp
  rw [msk, and_low k (x / 2 ^ k) _, and_low k x _]
  have e : x / 2 ^ k / 2 ^ (2 * k) = x / 2 ^ (2 * k) / 2 ^ k := by rw [Nat.div_div_eq_div_mul, Nat.div_div_eq_div_mul, Nat.mul_comm]
  rw [e, Nat.mul_add]
  omega

theorem ds_two (k n x : Nat) : DS (2 ^ k) (n + 2) x = x % 2 ^ k + x / 2 ^ k % 2 ^ k + DS (2 ^ k) n (x / 2 ^ (2 * k)) := by
  have e : x / 2 ^ k / 2 ^ k = x / 2 ^ (2 * k) := by rw [Nat.div_div_eq_div_mul, ← Nat.pow_add, Nat.two_mul]
  rw [DS, DS, e, Nat.add_assoc]

theorem stp_parts (k m x : Nat) (hk : 0 < k) : stp k (m + 1) x % 2 ^ (2 * k) = x % 2 ^ k + x / 2 ^ k % 2 ^ k ∧ stp k (m + 1) x / 2 ^ (2 * k) = stp k m (x / 2 ^ (2 * k)) := by
  have h1 : x % 2 ^ k < 2 ^ k := Nat.mod_lt _ (Nat.two_pow_pos _)
  have h2 : x / 2 ^ k % 2 ^ k < 2 ^ k := Nat.mod_lt _ (Nat.two_pow_pos _)
  have h3 : 2 ^ k + 2 ^ k ≤ 2 ^ (2 * k) := by
    have : 2 ^ k + 2 ^ k = 2 ^ (k + 1) := by rw [Nat.pow_succ]; omega
    rw [this]; exact Nat.pow_le_pow_right (by decide) (by omega)
  have h4 : x % 2 ^ k + x / 2 ^ k % 2 ^ k < 2 ^ (2 * k) := by omega
  rw [stp_succ]
  exact ⟨by rw [Nat.add_mul_mod_self_left, Nat.mod_eq_of_lt h4], by rw [Nat.add_mul_div_left _ _ (Nat.two_pow_pos _), Nat.div_eq_of_lt h4, Nat.zero_add]⟩

theorem ds_stp (k : Nat) (hk : 0 < k) : ∀ m x, DS (2 ^ (2 * k)) m (stp k m x) = DS (2 ^ k) (2 * m) x
  | 0, _ => rfl
  | m + 1, x => by
    obtain ⟨h1, h2⟩ := stp_parts k m x hk
    rw [DS, h1, h2, ds_stp k hk m, show 2 * (m + 1) = 2 * m + 2 by omega, ds_two]

theorem all_stp (k c : Nat) (hk : 0 < k) : ∀ m x, AllDig (2 ^ k) c (2 * m) x → AllDig (2 ^ (2 * k)) (c + c) m (stp k m x)
  | 0, _, _ => trivial
  | m + 1, x, h => by
    obtain ⟨h1, h2⟩ := stp_parts k m x hk
    rw [show 2 * (m + 1) = (2 * m + 1) + 1 by omega] at h
    obtain ⟨a1, a2, a3⟩ := h
    have e : x / 2 ^ k / 2 ^ k = x / 2 ^ (2 * k) := by rw [Nat.div_div_eq_div_mul, ← Nat.pow_add, Nat.two_mul]
    rw [e] at a3
    refine ⟨by rw [h1]; omega, ?_⟩
    rw [h2]
    exact all_stp k c hk m _ a3

theorem all_two : ∀ n x, AllDig (2 ^ 1) 1 n x
  | 0, _ => trivial
  | n + 1, x => ⟨by have := Nat.mod_lt x (show 0 < 2 by decide); simp; omega, all_two n _⟩

/-- The third step. -/
def third (m y : Nat) : Nat := (y / 16 + y) &&& msk 4 m
theorem third_succ (m y : Nat) (h : AllDig 16 4 (2 * (m + 1)) y) : third (m + 1) y = (y % 16 + y / 16 % 16) + 256 * third m (y / 256) := by
  rw [show 2 * (m + 1) = (2 * m + 1) + 1 by omega] at h
  obtain ⟨a1, a2, a3⟩ := h
  unfold third
  rw [msk, and_low 4, show (2 : Nat) ^ (2 * 4) = 256 from rfl, show (2 : Nat) ^ 4 = 16 from rfl]
  have e0 : (y / 16 + y) % 16 = y % 16 + y / 16 % 16 := by omega
  rw [e0]
  congr 2
  cases m with
  | zero => simp [msk]
  | succ m =>
    rw [show 2 * (m + 1) = (2 * m + 1) + 1 by omega] at a3
    have a4 : y / 16 / 16 % 16 ≤ 4 := a3.1
    have e : (y / 16 + y) / 256 = y / 256 / 16 + y / 256 := by
      have g1 : y / 16 / 16 = y / 256 := Nat.div_div_eq_div_mul y 16 16
      rw [g1] at a4
      have g2 := Nat.mod_add_div y 16
      have g3 := Nat.mod_add_div (y / 16) 16
      have g4 := Nat.mod_add_div (y / 256) 16
      rw [g1] at g3
      generalize y / 256 = z at *
      generalize y / 16 % 16 = q1 at *
      generalize y / 16 = u at *
      generalize y % 16 = q0 at *
      generalize z % 16 = q2 at *
      generalize z / 16 = z' at *
      omega
    rw [e]

theorem third_sum : ∀ m y, AllDig 16 4 (2 * m) y → DS 256 m (third m y) = DS 16 (2 * m) y ∧ AllDig 256 8 m (third m y)
  | 0, _, _ => ⟨rfl, trivial⟩
  | m + 1, y, h => by
    have hs := third_succ m y h
    rw [show 2 * (m + 1) = (2 * m + 1) + 1 by omega] at h ⊢
    obtain ⟨a1, a2, a3⟩ := h
    have e : y / 16 / 16 = y / 256 := by omega
    rw [e] at a3
    obtain ⟨i1, i2⟩ := third_sum m (y / 256) a3
    have b1 : third (m + 1) y % 256 = y % 16 + y / 16 % 16 := by omega
    have b2 : third (m + 1) y / 256 = third m (y / 256) := by omega
    refine ⟨?_, ?_, ?_⟩
    · rw [DS, b1, b2, i1, DS, DS, e, Nat.add_assoc]
    · rw [b1]; omega
    · rw [b2]; exact i2

/-- Every digit to the base 256 is at most c. -/
def AllD (c x : Nat) : Prop := ∀ i, x / 256 ^ i % 256 ≤ c

theorem no_carry {c c' x y : Nat} (hx : AllD c x) (hy : AllD c' y) (h : c + c' < 256) : ∀ i, (x + y) / 256 ^ i = x / 256 ^ i + y / 256 ^ i
  | 0 => by simp
  | i + 1 => by
    have a := hx i
    have b := hy i
    rw [Nat.pow_succ, ← Nat.div_div_eq_div_mul, no_carry hx hy h i, ← Nat.div_div_eq_div_mul, ← Nat.div_div_eq_div_mul]
    generalize x / 256 ^ i = u at *
    generalize y / 256 ^ i = v at *
    omega

theorem dig_add {c c' x y : Nat} (hx : AllD c x) (hy : AllD c' y) (h : c + c' < 256) (i : Nat) : (x + y) / 256 ^ i % 256 = x / 256 ^ i % 256 + y / 256 ^ i % 256 := by
  have a := hx i
  have b := hy i
  rw [no_carry hx hy h i]
  generalize x / 256 ^ i = u at *
  generalize y / 256 ^ i = v at *
  omega

theorem allD_add {c c' x y : Nat} (hx : AllD c x) (hy : AllD c' y) (h : c + c' < 256) : AllD (c + c') (x + y) := fun i => by
  rw [dig_add hx hy h i]
  have a := hx i
  have b := hy i
  omega

theorem dig_shift (x k i : Nat) : x / 256 ^ k / 256 ^ i = x / 256 ^ (k + i) := by rw [Nat.div_div_eq_div_mul, ← Nat.pow_add]
theorem allD_shift {c x : Nat} (hx : AllD c x) (k : Nat) : AllD c (x / 256 ^ k) := fun i => by rw [dig_shift]; exact hx _

theorem allD_of (c y : Nat) (h : AllDig 256 c 8 y) (hy : y < 256 ^ 8) : AllD c y := by
  have e : ∀ i, y / 256 ^ i / 256 = y / 256 ^ (i + 1) := fun i => by rw [Nat.div_div_eq_div_mul, ← Nat.pow_succ]
  obtain ⟨c0, c1, c2, c3, c4, c5, c6, c7, _⟩ := h
  have e0 : y / 256 = y / 256 ^ 1 := by simp
  rw [e0] at c1 c2 c3 c4 c5 c6 c7
  rw [e] at c2 c3 c4 c5 c6 c7
  rw [e] at c3 c4 c5 c6 c7
  rw [e] at c4 c5 c6 c7
  rw [e] at c5 c6 c7
  rw [e] at c6 c7
  rw [e] at c7
  intro i
  match i with
  | 0 => simpa using c0
  | 1 => exact c1
  | 2 => exact c2
  | 3 => exact c3
  | 4 => exact c4
  | 5 => exact c5
  | 6 => exact c6
  | 7 => exact c7
  | i + 8 =>
    have : y / 256 ^ (i + 8) = 0 := Nat.div_eq_of_lt (Nat.lt_of_lt_of_le hy (Nat.pow_le_pow_right (by decide) (by omega)))
    rw [this]
    exact Nat.zero_le _

theorem ds_sum (y : Nat) : DS 256 8 y = y / 256 ^ 0 % 256 + y / 256 ^ 1 % 256 + y / 256 ^ 2 % 256 + y / 256 ^ 3 % 256 + y / 256 ^ 4 % 256 + y / 256 ^ 5 % 256 + y / 256 ^ 6 % 256 + y / 256 ^ 7 % 256 := by
  have e : ∀ i, y / 256 ^ i / 256 = y / 256 ^ (i + 1) := fun i => by rw [Nat.div_div_eq_div_mul, ← Nat.pow_succ]
  have e0 : y / 256 = y / 256 ^ 1 := by simp
  simp only [DS, Nat.add_zero]
  rw [e0, e, e, e, e, e, e]
  simp only [Nat.pow_zero, Nat.div_one, Nat.add_assoc]

/-- The last steps. -/
theorem last_steps (y : Nat) (hy : y < 18446744073709551616) (h : AllDig 256 8 8 y) :
    (y + y / 256 + (y + y / 256) / 65536 + (y + y / 256 + (y + y / 256) / 65536) / 4294967296) % 128 = DS 256 8 y := by
  have d0 := allD_of 8 y h hy
  rw [show (256 : Nat) = 256 ^ 1 from rfl, show (65536 : Nat) = 256 ^ 2 from rfl, show (4294967296 : Nat) = 256 ^ 4 from rfl]
  have d1 := allD_shift d0 1
  have d5 := allD_add d0 d1 (by decide)
  have g5 : ∀ i, (y + y / 256 ^ 1) / 256 ^ i % 256 = y / 256 ^ i % 256 + y / 256 ^ (1 + i) % 256 := fun i => by rw [dig_add d0 d1 (by decide), dig_shift]
  generalize y + y / 256 ^ 1 = x5 at *
  have d2 := allD_shift d5 2
  have d6 := allD_add d5 d2 (by decide)
  have g6 : ∀ i, (x5 + x5 / 256 ^ 2) / 256 ^ i % 256 = x5 / 256 ^ i % 256 + x5 / 256 ^ (2 + i) % 256 := fun i => by rw [dig_add d5 d2 (by decide), dig_shift]
  generalize x5 + x5 / 256 ^ 2 = x6 at *
  have d4 := allD_shift d6 4
  have d7 := allD_add d6 d4 (by decide)
  have g7 : (x6 + x6 / 256 ^ 4) / 256 ^ 0 % 256 = x6 / 256 ^ 0 % 256 + x6 / 256 ^ 4 % 256 := by rw [dig_add d6 d4 (by decide), dig_shift]
  have b0 := d7 0
  rw [show (256 : Nat) ^ 1 = 256 from rfl] at *
  rw [ds_sum]
  rw [g6, g6, g5, g5, g5, g5] at g7
  generalize x6 + x6 / 256 ^ 4 = x7 at *
  simp only [Nat.pow_zero, Nat.div_one, Nat.reduceAdd] at g7 b0 ⊢
  omega

theorem ds_pop : ∀ n x, DS 2 n x = (List.range n).countP fun i => x.testBit i
  | 0, _ => rfl
  | n + 1, x => by
    rw [DS, ds_pop n, List.range_succ_eq_map, List.countP_cons, List.countP_map]
    have e : ((fun i => x.testBit i) ∘ Nat.succ) = fun i => (x / 2).testBit i := by
      funext i
      simp [Nat.testBit_succ]
    rw [e]
    have : (if x.testBit 0 = true then 1 else 0) = x % 2 := by
      rw [Nat.testBit_zero]
      rcases Nat.mod_two_eq_zero_or_one x with h | h <;> simp [h]
    omega

/-- THE PLAIN LAW OF bits.OnesCount64. -/
theorem ones_plain (x : Nat) :
    let y1 := stp 1 32 x
    let y2 := stp 2 16 y1
    let y3 := third 8 y2
    (y3 + y3 / 256 + (y3 + y3 / 256) / 65536 + (y3 + y3 / 256 + (y3 + y3 / 256) / 65536) / 4294967296) % 128 = pop x := by
  intro y1 y2 y3
  have a1 : AllDig (2 ^ 2) 2 32 y1 := all_stp 1 1 (by decide) 32 x (all_two _ _)
  have a2 : AllDig (2 ^ 4) 4 16 y2 := all_stp 2 2 (by decide) 16 y1 a1
  obtain ⟨s3, a3⟩ := third_sum 8 y2 a2
  have s2 : DS (2 ^ 4) 16 y2 = DS (2 ^ 2) 32 y1 := ds_stp 2 (by decide) 16 y1
  have s1 : DS (2 ^ 2) 32 y1 = DS (2 ^ 1) 64 x := ds_stp 1 (by decide) 32 x
  have hy : y3 < 18446744073709551616 := by
    have : y3 ≤ msk 4 8 := Nat.and_le_right
    have e : msk 4 8 = 1085102592571150095 := by decide
    omega
  rw [last_steps y3 hy a3, show DS 256 8 y3 = DS 16 (2 * 8) y2 from s3]
  show DS (2 ^ 4) 16 y2 = _
  rw [s2, s1]
  exact ds_pop 64 x

end Go.Proofs.Ybulkddhs
