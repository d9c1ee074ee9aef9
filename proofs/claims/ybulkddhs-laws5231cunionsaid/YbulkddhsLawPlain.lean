import Derived.Test.YbulkddhsLawBuild
namespace Go.Proofs.Ybulkddhs

theorem wFirst_lt {nw o lo : Nat} (ho : o < 64 * nw) (hl : lo < 64 * nw) : wFirst nw o lo < nw := by
  unfold wFirst
  split <;> omega
theorem wCount_le (nw o lo top : Nat) : wCount nw o lo top ≤ nw := by
  unfold wCount
  omega

/-- The words that hold the copies lo .. top are met. -/
theorem seen_copy {nw o lo top c p : Nat} (h0 : 0 < nw) (h3 : nw ≤ 3) (ho : o < 64 * nw) (hp : p < 64 * nw) (hc : (p + 64 * nw - o) % (64 * nw) = c) (h1 : lo ≤ c) (h2 : c ≤ top) (ht : top < 64 * nw) :
    seen nw (wFirst nw o lo) (wCount nw o lo top) (p / 64) := by
  unfold seen wFirst wCount
  rcases nw_cases h0 h3 with rfl | rfl | rfl
  · split <;> omega
  · split <;> omega
  · split <;> omega

theorem word_zero {x : Nat} (hx : x < 18446744073709551616) (h : ∀ b, b < 64 → x.testBit b = false) : x = 0 := by
  apply Nat.eq_of_testBit_eq
  intro b
  rw [Nat.zero_testBit]
  by_cases hb : b < 64
  · exact h b hb
  · apply Nat.testBit_lt_two_pow
    have : 2 ^ 64 ≤ 2 ^ b := Nat.pow_le_pow_right (by decide) (by omega)
    omega

/-- A ring's copies lie between lo and top. -/
theorem IsRing.between {nw : Nat} {W : List Nat} {o : Nat} {h : Nat → Bool} {n lo top : Nat} (hr : IsRing nw W o h n lo top) (c : Nat) (hc : c < 64 * nw) (hh : h c = true) : 0 < n ∧ 1 ≤ lo ∧ lo ≤ c ∧ c ≤ top ∧ top < 64 * nw := by
  have hc1 : 1 ≤ c := by
    rcases Nat.eq_zero_or_pos c with rfl | h'
    · rw [hr.zero] at hh; cases hh
    · exact h'
  rcases scan_spec h (64 * nw - 1) with ⟨q1, _, _, q4⟩ | ⟨q1, q2, q3, q4, _, _, q5⟩
  · rw [q4 c hc1 (by omega)] at hh; cases hh
  · have hn := hr.cnt
    have hpos : 0 < n := by omega
    obtain ⟨e1, e2⟩ := hr.some hpos
    obtain ⟨d1, d2⟩ := q5 c hc1 (by omega) hh
    omega

theorem IsRing.range {nw : Nat} {W : List Nat} {o : Nat} {h : Nat → Bool} {n lo top : Nat} (hr : IsRing nw W o h n lo top) (hn : 0 < n) : 1 ≤ lo ∧ lo ≤ top ∧ top < 64 * nw ∧ n < 64 * nw := by
  have h1 := hr.cnt
  obtain ⟨e1, e2⟩ := hr.some hn
  have h2 := scan_le h (64 * nw - 1)
  have h4 := hr.off
  rcases scan_spec h (64 * nw - 1) with ⟨q1, _, _, q4⟩ | ⟨q1, q2, q3, q4, _, _, q5⟩ <;> omega

/-- A word of the ring that is not met holds nothing. -/
theorem IsRing.unseen {nw : Nat} {W : List Nat} {o : Nat} {h : Nat → Bool} {n lo top : Nat} (hr : IsRing nw W o h n lo top) (h0 : 0 < nw) (h3 : nw ≤ 3) (i : Nat) (hi : i < nw) (hs : ¬ seen nw (wFirst nw o lo) (wCount nw o lo top) i) : W.getD i 0 = 0 := by
  apply word_zero (hr.fit i)
  intro b hb
  have hb1 := hr.bit (64 * i + b) (by omega)
  have e1 : (64 * i + b) / 64 = i := by omega
  have e2 : (64 * i + b) % 64 = b := by omega
  unfold bitAt at hb1
  rw [e1, e2] at hb1
  rw [hb1]
  cases hh : h ((64 * i + b + 64 * nw - o) % (64 * nw)) with
  | false => rfl
  | true =>
    obtain ⟨_, _, a2, a3, a4⟩ := hr.between _ (Nat.mod_lt _ (by omega)) hh
    have := seen_copy h0 h3 hr.off (show 64 * i + b < 64 * nw by omega) rfl a2 a3 a4
    rw [e1] at this
    exact absurd this hs

/-- Of a ring without copies every word is zero. -/
theorem IsRing.empty {nw : Nat} {W : List Nat} {o : Nat} {h : Nat → Bool} {lo top : Nat} (hr : IsRing nw W o h 0 lo top) (h0 : 0 < nw) (i : Nat) (hi : i < nw) : W.getD i 0 = 0 := by
  apply word_zero (hr.fit i)
  intro b hb
  have hb1 := hr.bit (64 * i + b) (by omega)
  have e1 : (64 * i + b) / 64 = i := by omega
  have e2 : (64 * i + b) % 64 = b := by omega
  unfold bitAt at hb1
  rw [e1, e2] at hb1
  rw [hb1]
  cases hh : h ((64 * i + b + 64 * nw - o) % (64 * nw)) with
  | false => rfl
  | true => exact absurd (hr.between _ (Nat.mod_lt _ (by omega)) hh).1 (Nat.lt_irrefl 0)

theorem range_getD (W : List Nat) (nw : Nat) (hl : W.length = nw) : (List.range nw).map (fun i => W.getD i 0) = W := by
  apply List.ext_getElem?
  intro i
  by_cases hi : i < nw
  · simp [hi, List.getD, List.getElem?_eq_getElem (show i < W.length by omega)]
  · rw [List.getElem?_eq_none (by simp; omega), List.getElem?_eq_none (by omega)]

theorem range_zero (nw : Nat) : (List.range nw).map (fun _ => 0) = List.replicate nw 0 := by
  apply List.ext_getElem?
  intro i
  by_cases hi : i < nw
  · simp [hi]
  · rw [List.getElem?_eq_none (by simp; omega), List.getElem?_eq_none (by simp; omega)]

/-- The copy that own makes. -/
theorem IsRing.copied {nw : Nat} {W : List Nat} {o : Nat} {h : Nat → Bool} {n lo top : Nat} (hr : IsRing nw W o h n lo top) (h0 : 0 < nw) (h3 : nw ≤ 3) : patch (fun _ => 0) (fun i => W.getD i 0) nw (wFirst nw o lo) (wCount nw o lo top) = W := by
  rw [patch_all (fun i hi hs => (hr.unseen h0 h3 i hi hs).symm), range_getD W nw hr.len]
theorem IsRing.blank {nw : Nat} {W : List Nat} {o : Nat} {h : Nat → Bool} {lo top : Nat} (hr : IsRing nw W o h 0 lo top) (h0 : 0 < nw) : List.replicate nw 0 = W := by
  rw [← range_zero, ← range_getD W nw hr.len]
  apply List.map_congr_left
  intro i hi
  rw [hr.empty h0 i (List.mem_range.1 hi)]

end Go.Proofs.Ybulkddhs
