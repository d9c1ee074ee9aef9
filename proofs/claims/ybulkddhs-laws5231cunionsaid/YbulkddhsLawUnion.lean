import Derived.Test.YbulkddhsLawPlain
namespace Go.Proofs.Ybulkddhs

/-- The bits of the words V that stand 64 * q + s further on than word i. -/
def xw (V : List Nat) (nw q s i : Nat) : Nat :=
  if s = 0 then V.getD ((i + q) % nw) 0 else V.getD ((i + q) % nw) 0 / 2 ^ s ||| V.getD (((i + q) % nw + 1) % nw) 0 * 2 ^ (64 - s) % 2 ^ 64

theorem fit_div {x : Nat} (s : Nat) (h : x < 18446744073709551616) : x / 2 ^ s < 18446744073709551616 := Nat.lt_of_le_of_lt (Nat.div_le_self _ _) h

theorem xw_lt {V : List Nat} (hf : Fit V) (nw q s i : Nat) : xw V nw q s i < 18446744073709551616 := by
  unfold xw
  split
  · exact hf _
  · exact or_lt (fit_div s (hf _)) (Nat.mod_lt _ (by decide))

theorem high_bit {x b : Nat} (hx : x < 18446744073709551616) (hb : 64 ≤ b) : x.testBit b = false := by
  apply Nat.testBit_lt_two_pow
  have : 2 ^ 64 ≤ 2 ^ b := Nat.pow_le_pow_right (by decide) hb
  omega

theorem spot_low {nw q s i b : Nat} (h0 : 0 < nw) (h3 : nw ≤ 3) (hb : b + s < 64) (hi : i < nw) (hq : q < nw) :
    (64 * i + b + (64 * q + s)) % (64 * nw) / 64 = (i + q) % nw ∧ (64 * i + b + (64 * q + s)) % (64 * nw) % 64 = b + s := by
  rcases nw_cases h0 h3 with rfl | rfl | rfl <;> omega
theorem spot_high {nw q s i b : Nat} (h0 : 0 < nw) (h3 : nw ≤ 3) (hb : 64 ≤ b + s) (hb2 : b < 64) (hs : s < 64) (hi : i < nw) (hq : q < nw) :
    (64 * i + b + (64 * q + s)) % (64 * nw) / 64 = ((i + q) % nw + 1) % nw ∧ (64 * i + b + (64 * q + s)) % (64 * nw) % 64 = b + s - 64 := by
  rcases nw_cases h0 h3 with rfl | rfl | rfl <;> omega

theorem xw_bit {V : List Nat} (hf : Fit V) {nw q s i b : Nat} (h0 : 0 < nw) (h3 : nw ≤ 3) (hb : b < 64) (hs : s < 64) (hi : i < nw) (hq : q < nw) :
    (xw V nw q s i).testBit b = bitAt V ((64 * i + b + (64 * q + s)) % (64 * nw)) := by
  unfold xw bitAt
  by_cases hs0 : s = 0
  · subst hs0
    obtain ⟨e1, e2⟩ := spot_low (s := 0) h0 h3 (by omega) hi hq (b := b)
    rw [if_pos rfl, e1, e2, Nat.add_zero]
  · rw [if_neg hs0, Nat.testBit_or, Nat.testBit_div_two_pow, Nat.testBit_mod_two_pow, Nat.mul_comm _ (2 ^ (64 - s)), Nat.testBit_two_pow_mul]
    by_cases hbs : b + s < 64
    · obtain ⟨e1, e2⟩ := spot_low h0 h3 hbs hi hq
      have hno : decide (b ≥ 64 - s) = false := by simp; omega
      rw [e1, e2, hno]
      simp
    · obtain ⟨e1, e2⟩ := spot_high h0 h3 (by omega) hb hs hi hq
      have hyes : decide (b ≥ 64 - s) = true := by simp; omega
      have hyes2 : decide (b < 64) = true := by simp [hb]
      rw [e1, e2, hyes, hyes2, high_bit (hf _) (by omega)]
      simp
      congr 1
      omega

theorem spot_turn {nw o so p by' : Nat} (h0 : 0 < nw) (h3 : nw ≤ 3) (ho : o < 64 * nw) (hso : so < 64 * nw) (hp : p < 64 * nw) (hb : by' = (so + 64 * nw - o) % (64 * nw)) :
    ((p + by') % (64 * nw) + 64 * nw - so) % (64 * nw) = (p + 64 * nw - o) % (64 * nw) := by
  subst hb
  rcases nw_cases h0 h3 with rfl | rfl | rfl <;> omega

section
variable {nw o n lo top so sn slo stop q s : Nat} {W V : List Nat} {h hs : Nat → Bool}

theorem xw_copy (hv : IsRing nw V so hs sn slo stop) (h0 : 0 < nw) (h3 : nw ≤ 3) (ho : o < 64 * nw) (hsl : s < 64) (hq : q < nw) (hb : 64 * q + s = (so + 64 * nw - o) % (64 * nw)) (p : Nat) (hp : p < 64 * nw) :
    (xw V nw q s (p / 64)).testBit (p % 64) = hs ((p + 64 * nw - o) % (64 * nw)) := by
  rw [xw_bit hv.fit h0 h3 (Nat.mod_lt _ (by decide)) hsl (by omega) hq, hv.bit _ (Nat.mod_lt _ (by omega)), show 64 * (p / 64) + p % 64 = p by omega, spot_turn h0 h3 ho hv.off hp hb]

theorem xw_unseen (hv : IsRing nw V so hs sn slo stop) (h0 : 0 < nw) (h3 : nw ≤ 3) (ho : o < 64 * nw) (hsl : s < 64) (hq : q < nw) (hb : 64 * q + s = (so + 64 * nw - o) % (64 * nw)) (i : Nat) (hi : i < nw)
    (hns : ¬ seen nw (wFirst nw o slo) (wCount nw o slo stop) i) : xw V nw q s i = 0 := by
  apply word_zero (xw_lt hv.fit _ _ _ _)
  intro b hbl
  have e := xw_copy hv h0 h3 ho hsl hq hb (64 * i + b) (by omega)
  have e1 : (64 * i + b) / 64 = i := by omega
  have e2 : (64 * i + b) % 64 = b := by omega
  rw [e1, e2] at e
  rw [e]
  cases hh : hs ((64 * i + b + 64 * nw - o) % (64 * nw)) with
  | false => rfl
  | true =>
    obtain ⟨_, _, a2, a3, a4⟩ := hv.between _ (Nat.mod_lt _ (by omega)) hh
    have := seen_copy h0 h3 ho (show 64 * i + b < 64 * nw by omega) rfl a2 a3 a4
    rw [e1] at this
    exact absurd this hns

/-- Word i behind the round: the union. -/
def uw (W V : List Nat) (nw q s i : Nat) : Nat := W.getD i 0 ||| xw V nw q s i
/-- What word i gains. -/
def gain (W V : List Nat) (nw q s i : Nat) : Nat := xw V nw q s i &&& (18446744073709551615 - W.getD i 0)

theorem or_gain {a x : Nat} (ha : a < 18446744073709551616) (hx : x < 18446744073709551616) : a ||| (x &&& (18446744073709551615 - a)) = a ||| x := by
  apply Nat.eq_of_testBit_eq
  intro b
  have e : (18446744073709551615 - a).testBit b = (decide (b < 64) && !a.testBit b) := by
    have := Nat.testBit_two_pow_sub_succ (n := 64) (x := a) ha b
    rw [← this]
    congr 1
    omega
  rw [Nat.testBit_or, Nat.testBit_and, Nat.testBit_or, e]
  by_cases hb : b < 64
  · simp [hb]; cases a.testBit b <;> simp
  · rw [high_bit hx (by omega), high_bit ha (by omega)]; simp
theorem gain_bit {a x b : Nat} (ha : a < 18446744073709551616) (hb : b < 64) : (x &&& (18446744073709551615 - a)).testBit b = (x.testBit b && !a.testBit b) := by
  have e : (18446744073709551615 - a).testBit b = (decide (b < 64) && !a.testBit b) := by
    have := Nat.testBit_two_pow_sub_succ (n := 64) (x := a) ha b
    rw [← this]
    congr 1
    omega
  rw [Nat.testBit_and, e]
  simp [hb]

theorem uw_gain (hr : Fit W) (hv : Fit V) (i : Nat) : W.getD i 0 ||| gain W V nw q s i = uw W V nw q s i := or_gain (hr _) (xw_lt hv _ _ _ _)
theorem gain_lt (hv : Fit V) (i : Nat) : gain W V nw q s i < 18446744073709551616 := Nat.lt_of_le_of_lt Nat.and_le_left (xw_lt hv _ _ _ _)

theorem pop_le (x : Nat) : pop x ≤ 64 := by
  unfold pop
  have := List.countP_le_length (p := fun i => x.testBit i) (l := List.range 64)
  simpa using this
theorem addTo_le (j0 : Nat) (a : Nat → Nat) (h : ∀ i, a i ≤ 64) : ∀ t, addTo nw j0 a t ≤ 64 * t
  | 0 => Nat.le_refl _
  | t + 1 => by have := addTo_le j0 a h t; have := h (wIdx nw j0 t); rw [addTo]; omega

/-- The words behind the loop. -/
theorem union_words (hr : IsRing nw W o h n lo top) (hv : IsRing nw V so hs sn slo stop) (h0 : 0 < nw) (h3 : nw ≤ 3) (hsl : s < 64) (hq : q < nw) (hb : 64 * q + s = (so + 64 * nw - o) % (64 * nw)) :
    patch (fun i => W.getD i 0) (uw W V nw q s) nw (wFirst nw o slo) (wCount nw o slo stop) = (List.range nw).map (uw W V nw q s) := by
  apply patch_all
  intro i hi hns
  unfold uw
  rw [xw_unseen hv h0 h3 hr.off hsl hq hb i hi hns, Nat.or_zero]

theorem union_cnt (hr : IsRing nw W o h n lo top) (hv : IsRing nw V so hs sn slo stop) (h0 : 0 < nw) (h3 : nw ≤ 3) (hsl : s < 64) (hq : q < nw) (hb : 64 * q + s = (so + 64 * nw - o) % (64 * nw)) (hs0 : slo < 64 * nw) :
    n + addTo nw (wFirst nw o slo) (fun i => pop (gain W V nw q s i)) (wCount nw o slo stop) = (scan (fun c => h c || hs c) (64 * nw - 1)).1 := by
  have hz : (fun c => h c || hs c) 0 = false := by simp [hr.zero, hv.zero]
  rw [addTo_all _ h0 h3 (wFirst_lt hr.off hs0) (wCount_le _ _ _ _), scan_cnt _ hz, hr.cnt, scan_cnt _ hr.zero, show 64 * nw - 1 + 1 = 64 * nw by omega, cnt_union]
  · congr 1
    rw [sum_cnt (fun p => hs ((p + 64 * nw - o) % (64 * nw)) && !h ((p + 64 * nw - o) % (64 * nw)))]
    · exact cnt_rot (fun c => hs c && !h c) (64 * nw) o hr.off
    · intro i hi
      rw [pop_cnt]
      apply cnt_congr
      intro b hbl
      have e1 : (64 * i + b) / 64 = i := by omega
      have e2 : (64 * i + b) % 64 = b := by omega
      have x1 := xw_copy hv h0 h3 hr.off hsl hq hb (64 * i + b) (by omega)
      have x2 := hr.bit (64 * i + b) (by omega)
      unfold bitAt at x2
      rw [e1, e2] at x1 x2
      unfold gain
      rw [gain_bit (hr.fit _) hbl, x1, x2]
  · intro i hi hns
    unfold gain
    rw [xw_unseen hv h0 h3 hr.off hsl hq hb i hi hns, Nat.zero_and]
    decide

theorem scan_union_lo (hn : 0 < (scan h (64 * nw - 1)).1) (hsn : 0 < (scan hs (64 * nw - 1)).1) :
    min (scan h (64 * nw - 1)).2.1 (scan hs (64 * nw - 1)).2.1 = (scan (fun c => h c || hs c) (64 * nw - 1)).2.1 ∧ max (scan h (64 * nw - 1)).2.2 (scan hs (64 * nw - 1)).2.2 = (scan (fun c => h c || hs c) (64 * nw - 1)).2.2 := by
  rcases scan_spec h (64 * nw - 1) with ⟨p1, _⟩ | ⟨p1, p2, p3, p4, p5, p6, p7⟩
  · omega
  rcases scan_spec hs (64 * nw - 1) with ⟨q1, _⟩ | ⟨q1, q2, q3, q4, q5, q6, q7⟩
  · omega
  rcases scan_spec (fun c => h c || hs c) (64 * nw - 1) with ⟨_, _, _, u4⟩ | ⟨u1, u2, u3, u4, u5, u6, u7⟩
  · have := u4 _ p2 (by omega)
    simp [p5] at this
  · have a1 := u7 (scan h (64 * nw - 1)).2.1 p2 (by omega) (by simp [p5])
    have a2 := u7 (scan hs (64 * nw - 1)).2.1 q2 (by omega) (by simp [q5])
    have a3 := u7 (scan h (64 * nw - 1)).2.2 (by omega) (by omega) (by simp [p6])
    have a4 := u7 (scan hs (64 * nw - 1)).2.2 (by omega) (by omega) (by simp [q6])
    simp only [Bool.or_eq_true] at u5 u6
    have b1 : (scan h (64 * nw - 1)).2.1 ≤ (scan (fun c => h c || hs c) (64 * nw - 1)).2.1 ∨ (scan hs (64 * nw - 1)).2.1 ≤ (scan (fun c => h c || hs c) (64 * nw - 1)).2.1 := by
      rcases u5 with u | u
      · exact .inl (p7 _ u2 (by omega) u).1
      · exact .inr (q7 _ u2 (by omega) u).1
    have b2 : (scan (fun c => h c || hs c) (64 * nw - 1)).2.2 ≤ (scan h (64 * nw - 1)).2.2 ∨ (scan (fun c => h c || hs c) (64 * nw - 1)).2.2 ≤ (scan hs (64 * nw - 1)).2.2 := by
      rcases u6 with u | u
      · exact .inl (p7 _ (by omega) u4 u).2
      · exact .inr (q7 _ (by omega) u4 u).2
    omega

theorem scan_congr {f g : Nat → Bool} : ∀ m, (∀ c, 1 ≤ c → c ≤ m → f c = g c) → scan f m = scan g m
  | 0, _ => rfl
  | m + 1, hh => by
    have ih := scan_congr m (fun c h1 h2 => hh c h1 (by omega))
    have e := hh (m + 1) (by omega) (Nat.le_refl _)
    cases hf : g (m + 1)
    · rw [scan_no hf, scan_no (by rw [e]; exact hf), ih]
    · rw [scan_yes hf, scan_yes (by rw [e]; exact hf), ih]

/-- The ring behind or. -/
theorem union_ring (hr : IsRing nw W o h n lo top) (hv : IsRing nw V so hs sn slo stop) (h0 : 0 < nw) (h3 : nw ≤ 3) (hsl : s < 64) (hq : q < nw) (hb : 64 * q + s = (so + 64 * nw - o) % (64 * nw)) (hsn : 0 < sn) :
    IsRing nw ((List.range nw).map (uw W V nw q s)) o (fun c => h c || hs c) (n + addTo nw (wFirst nw o slo) (fun i => pop (gain W V nw q s i)) (wCount nw o slo stop))
      (if n = 0 then slo else min lo slo) (if n = 0 then stop else max top stop) := by
  obtain ⟨v1, v2, v3, v4⟩ := hv.range hsn
  have hc := union_cnt hr hv h0 h3 hsl hq hb (by omega)
  have hget : ∀ i, i < nw → ((List.range nw).map (uw W V nw q s)).getD i 0 = uw W V nw q s i := fun i hi => by simp [List.getD, hi]
  have hs0 := hv.cnt
  obtain ⟨vl, vt⟩ := hv.some hsn
  have hlt : ∀ i, uw W V nw q s i < 18446744073709551616 := fun i => or_lt (hr.fit i) (xw_lt hv.fit _ _ _ _)
  have hpos : 0 < (scan (fun c => h c || hs c) (64 * nw - 1)).1 := by
    rcases scan_spec hs (64 * nw - 1) with ⟨q1, _⟩ | ⟨q1, q2, q3, q4, q5, q6, q7⟩
    · omega
    rcases scan_spec (fun c => h c || hs c) (64 * nw - 1) with ⟨_, _, _, u4⟩ | ⟨u1, _⟩
    · have := u4 _ q2 (by omega)
      simp [q5] at this
    · exact u1
  refine ⟨by simp, fun i => ?_, hr.off, fun p hp => ?_, by simp [hr.zero, hv.zero], hc, fun hz => by omega, fun _ => ?_⟩
  · by_cases hi : i < nw
    · rw [hget i hi]; exact hlt i
    · rw [List.getD, List.getElem?_eq_none (by simp; omega)]; decide
  · have x1 := xw_copy hv h0 h3 hr.off hsl hq hb p hp
    have x2 := hr.bit p hp
    unfold bitAt at x2 ⊢
    rw [hget _ (by omega)]
    unfold uw
    rw [Nat.testBit_or, x1, x2]
  · by_cases hn : n = 0
    · rw [if_pos hn, if_pos hn, vl, vt]
      have e : scan (fun c => h c || hs c) (64 * nw - 1) = scan hs (64 * nw - 1) := by
        apply scan_congr
        intro c c1 c2
        cases hh : h c
        · simp
        · have := hr.between c (by omega) hh
          omega
      rw [e]
      exact ⟨rfl, rfl⟩
    · rw [if_neg hn, if_neg hn]
      obtain ⟨rl, rt⟩ := hr.some (by omega)
      have hr0 := hr.cnt
      rw [rl, rt, vl, vt]
      exact scan_union_lo (by omega) (by omega)
end

end Go.Proofs.Ybulkddhs
