import Derived.Test.YbulkddhsLawRing
namespace Go.Proofs.Ybulkddhs

theorem getD_set (W : List Nat) (i j x : Nat) (hj : j < W.length) : (W.set i x).getD j 0 = if i = j then x else W.getD j 0 := by
  by_cases e : i = j
  · subst e; simp [List.getD, List.getElem?_set_self hj]
  · simp [List.getD, List.getElem?_set_ne e, e]

theorem or_lt {a b : Nat} (ha : a < 18446744073709551616) (hb : b < 18446744073709551616) : a ||| b < 18446744073709551616 := by
  have := Nat.or_lt_two_pow (n := 64) ha hb
  exact this

/-- One bit more. -/
theorem bit_set {W : List Nat} {nw p0 : Nat} (hl : W.length = nw) (hf : Fit W) :
    (W.set (p0 / 64) (W.getD (p0 / 64) 0 ||| 2 ^ (p0 % 64))).length = nw ∧ Fit (W.set (p0 / 64) (W.getD (p0 / 64) 0 ||| 2 ^ (p0 % 64))) ∧
      ∀ p, p < 64 * nw → bitAt (W.set (p0 / 64) (W.getD (p0 / 64) 0 ||| 2 ^ (p0 % 64))) p = (bitAt W p || decide (p = p0)) := by
  refine ⟨by simp [hl], fun i => ?_, fun p hpl => ?_⟩
  · by_cases hi : i < W.length
    · rw [getD_set _ _ _ _ hi]
      split
      · refine or_lt (hf _) ?_
        have : 2 ^ (p0 % 64) < 2 ^ 64 := Nat.pow_lt_pow_right (by decide) (Nat.mod_lt _ (by decide))
        exact this
      · exact hf i
    · have e : (W.set (p0 / 64) (W.getD (p0 / 64) 0 ||| 2 ^ (p0 % 64)))[i]? = none := List.getElem?_eq_none (by simp; omega)
      rw [List.getD, e]
      decide
  · unfold bitAt
    rw [getD_set _ _ _ _ (by omega)]
    by_cases e : p0 / 64 = p / 64
    · rw [if_pos e, Nat.testBit_or, Nat.testBit_two_pow, e]
      congr 1
      apply decide_eq_decide.2
      omega
    · rw [if_neg e]
      have : ¬ p = p0 := fun h => e (by rw [h])
      simp [this]

/-- Where copy c stands. -/
theorem spot {nw o c p : Nat} (h0 : 0 < nw) (h3 : nw ≤ 3) (ho : o < 64 * nw) (hc : c < 64 * nw) (hp : p < 64 * nw) : p = (o + c) % (64 * nw) ↔ (p + 64 * nw - o) % (64 * nw) = c := by
  rcases nw_cases h0 h3 with rfl | rfl | rfl <;> omega

theorem bits_no {W : List Nat} {h : Nat → Bool} {nw o c : Nat} (hb : ∀ p, p < 64 * nw → bitAt W p = (h ((p + 64 * nw - o) % (64 * nw)) && decide ((p + 64 * nw - o) % (64 * nw) < c))) (hc : h c = false) :
    ∀ p, p < 64 * nw → bitAt W p = (h ((p + 64 * nw - o) % (64 * nw)) && decide ((p + 64 * nw - o) % (64 * nw) < c + 1)) := by
  intro p hp
  rw [hb p hp]
  generalize (p + 64 * nw - o) % (64 * nw) = q
  by_cases e : q = c
  · subst e; simp [hc]
  · congr 1
    apply decide_eq_decide.2
    omega
theorem bits_yes {W : List Nat} {h : Nat → Bool} {nw o c p0 : Nat} (h0 : 0 < nw) (h3 : nw ≤ 3) (ho : o < 64 * nw) (hcl : c < 64 * nw) (hp0 : p0 = (o + c) % (64 * nw)) (hl : W.length = nw) (hf : Fit W)
    (hb : ∀ p, p < 64 * nw → bitAt W p = (h ((p + 64 * nw - o) % (64 * nw)) && decide ((p + 64 * nw - o) % (64 * nw) < c))) (hc : h c = true) :
    ∀ p, p < 64 * nw → bitAt (W.set (p0 / 64) (W.getD (p0 / 64) 0 ||| 2 ^ (p0 % 64))) p = (h ((p + 64 * nw - o) % (64 * nw)) && decide ((p + 64 * nw - o) % (64 * nw) < c + 1)) := by
  intro p hp
  rw [(bit_set hl hf).2.2 p hp, hb p hp]
  have hs := spot h0 h3 ho hcl hp
  rw [← hp0] at hs
  generalize (p + 64 * nw - o) % (64 * nw) = q at hs ⊢
  have hs' : decide (p = p0) = decide (q = c) := decide_eq_decide.2 hs
  rw [hs']
  by_cases e : q = c
  · subst e; simp [hc]
  · have : decide (q < c + 1) = decide (q < c) := decide_eq_decide.2 (by omega)
    rw [this]
    simp [e]

theorem bits_all {W : List Nat} {h : Nat → Bool} {nw o : Nat} (h0 : 0 < nw) (hb : ∀ p, p < 64 * nw → bitAt W p = (h ((p + 64 * nw - o) % (64 * nw)) && decide ((p + 64 * nw - o) % (64 * nw) < 64 * nw))) :
    ∀ p, p < 64 * nw → bitAt W p = h ((p + 64 * nw - o) % (64 * nw)) := by
  intro p hp
  rw [hb p hp]
  have := Nat.mod_lt (p + 64 * nw - o) (show 0 < 64 * nw by omega)
  simp [this]

theorem bits_none {h : Nat → Bool} {nw o : Nat} (hz : h 0 = false) : ∀ p, p < 64 * nw → bitAt (List.replicate nw 0) p = (h ((p + 64 * nw - o) % (64 * nw)) && decide ((p + 64 * nw - o) % (64 * nw) < 1)) := by
  intro p hp
  have e : bitAt (List.replicate nw 0) p = false := by
    unfold bitAt
    have : (List.replicate nw 0).getD (p / 64) 0 = 0 := by simp [List.getD, List.getElem?_replicate]; split <;> rfl
    rw [this]; simp
  rw [e]
  generalize (p + 64 * nw - o) % (64 * nw) = q
  by_cases e : q = 0
  · subst e; simp [hz]
  · have : ¬ q < 1 := by omega
    simp [this]
theorem fit_none (nw : Nat) : Fit (List.replicate nw 0) := by
  intro i
  have : (List.replicate nw 0).getD i 0 = 0 := by simp [List.getD, List.getElem?_replicate]; split <;> rfl
  rw [this]; decide

end Go.Proofs.Ybulkddhs
