import Derived.Test.YbulkddhsLawPop
namespace Go.Proofs.Ybulkddhs

/-- How many of the copies 1 .. m are there, the least and the greatest of them. -/
def scan (h : Nat → Bool) : Nat → Nat × Nat × Nat
  | 0 => (0, 0, 0)
  | m + 1 => if h (m + 1) = true then ((scan h m).1 + 1, (if (scan h m).1 = 0 then m + 1 else (scan h m).2.1), m + 1) else scan h m

theorem scan_yes {h : Nat → Bool} {m : Nat} (hh : h (m + 1) = true) : scan h (m + 1) = ((scan h m).1 + 1, (if (scan h m).1 = 0 then m + 1 else (scan h m).2.1), m + 1) := by rw [scan, if_pos hh]
theorem scan_no {h : Nat → Bool} {m : Nat} (hh : h (m + 1) = false) : scan h (m + 1) = scan h m := by rw [scan, if_neg (by rw [hh]; decide)]

theorem scan_le (h : Nat → Bool) (m : Nat) : (scan h m).1 ≤ m ∧ (scan h m).2.1 ≤ m ∧ (scan h m).2.2 ≤ m := by
  induction m with
  | zero => simp [scan]
  | succ m ih =>
    cases hh : h (m + 1)
    · rw [scan_no hh]; omega
    · rw [scan_yes hh]
      refine ⟨by simp; omega, ?_, by simp⟩
      simp only
      split <;> omega

/-- Nothing is there, or the least and the greatest are. -/
theorem scan_spec (h : Nat → Bool) (m : Nat) :
    ((scan h m).1 = 0 ∧ (scan h m).2.1 = 0 ∧ (scan h m).2.2 = 0 ∧ ∀ c, 1 ≤ c → c ≤ m → h c = false) ∨
    (0 < (scan h m).1 ∧ 1 ≤ (scan h m).2.1 ∧ (scan h m).2.1 ≤ (scan h m).2.2 ∧ (scan h m).2.2 ≤ m ∧ h (scan h m).2.1 = true ∧ h (scan h m).2.2 = true ∧
      ∀ c, 1 ≤ c → c ≤ m → h c = true → (scan h m).2.1 ≤ c ∧ c ≤ (scan h m).2.2) := by
  induction m with
  | zero => exact .inl ⟨rfl, rfl, rfl, fun c h1 h2 => by omega⟩
  | succ m ih =>
    cases hh : h (m + 1)
    · rw [scan_no hh]
      rcases ih with ⟨a, b, c, d⟩ | ⟨a, b, c, d, e, f, g⟩
      · refine .inl ⟨a, b, c, fun x h1 h2 => ?_⟩
        by_cases e : x = m + 1
        · rw [e]; exact hh
        · exact d x h1 (by omega)
      · refine .inr ⟨a, b, c, by omega, e, f, fun x h1 h2 h3 => ?_⟩
        by_cases e : x = m + 1
        · rw [e, hh] at h3; cases h3
        · exact g x h1 (by omega) h3
    · rw [scan_yes hh]
      right
      rcases ih with ⟨a, b, c, d⟩ | ⟨a, b, c, d, e, f, g⟩
      · simp only [a, if_true]
        refine ⟨by omega, by omega, Nat.le_refl _, Nat.le_refl _, hh, hh, fun x h1 h2 h3 => ?_⟩
        by_cases e : x = m + 1
        · omega
        · rw [d x h1 (by omega)] at h3; cases h3
      · have hne : ¬ (scan h m).1 = 0 := by omega
        simp only [if_neg hne]
        refine ⟨by omega, b, by omega, Nat.le_refl _, e, hh, fun x h1 h2 h3 => ?_⟩
        by_cases e : x = m + 1
        · omega
        · have := g x h1 (by omega) h3
          omega

/-- How many of the numbers below n pass. -/
def cnt (f : Nat → Bool) (n : Nat) : Nat := (List.range n).countP f

theorem cnt_succ (f : Nat → Bool) (n : Nat) : cnt f (n + 1) = cnt f n + (if f n = true then 1 else 0) := by
  simp [cnt, List.range_succ, List.countP_append]
theorem cnt_congr {f g : Nat → Bool} {n : Nat} (h : ∀ i, i < n → f i = g i) : cnt f n = cnt g n := by
  induction n with
  | zero => rfl
  | succ n ih => rw [cnt_succ, cnt_succ, ih (fun i hi => h i (by omega)), h n (by omega)]
theorem cnt_add (f : Nat → Bool) (a b : Nat) : cnt f (a + b) = cnt f a + cnt (fun i => f (a + i)) b := by
  induction b with
  | zero => rfl
  | succ b ih => rw [← Nat.add_assoc, cnt_succ, ih, cnt_succ]; omega

/-- The count does not hang on where one begins to go round. -/
theorem cnt_rot (f : Nat → Bool) (n o : Nat) (ho : o < n) : cnt (fun p => f ((p + n - o) % n)) n = cnt f n := by
  have e1 : n = o + (n - o) := by omega
  have e2 : n = (n - o) + o := by omega
  have h1 : cnt (fun p => f ((p + n - o) % n)) (o + (n - o)) = cnt (fun p => f ((n - o) + p)) o + cnt f (n - o) := by
    rw [cnt_add]
    congr 1
    · refine cnt_congr fun i hi => ?_
      have : (i + n - o) % n = n - o + i := by rw [Nat.mod_eq_of_lt (by omega)]; omega
      rw [this]
    · refine cnt_congr fun i hi => ?_
      have : (o + i + n - o) % n = i := by
        rw [show o + i + n - o = i + n by omega, Nat.add_mod_right, Nat.mod_eq_of_lt (by omega)]
      rw [this]
  have h2 : cnt f ((n - o) + o) = cnt f (n - o) + cnt (fun p => f ((n - o) + p)) o := cnt_add f _ _
  rw [← e1] at h1
  rw [← e2] at h2
  omega

theorem scan_cnt (h : Nat → Bool) (h0 : h 0 = false) (m : Nat) : (scan h m).1 = cnt h (m + 1) := by
  induction m with
  | zero => simp [scan, cnt, h0]
  | succ m ih =>
    rw [cnt_succ, ← ih]
    cases hh : h (m + 1)
    · rw [scan_no hh]; simp
    · rw [scan_yes hh]; simp

theorem cnt_union (f g : Nat → Bool) (n : Nat) : cnt (fun c => f c || g c) n = cnt f n + cnt (fun c => g c && !f c) n := by
  induction n with
  | zero => rfl
  | succ n ih =>
    rw [cnt_succ, cnt_succ, cnt_succ, ih]
    cases f n <;> cases g n <;> simp <;> omega

theorem pop_cnt (x : Nat) : pop x = cnt (fun i => x.testBit i) 64 := rfl

/-- Bit p of the words. -/
def bitAt (W : List Nat) (p : Nat) : Bool := (W.getD (p / 64) 0).testBit (p % 64)
/-- Each word is one. -/
def Fit (W : List Nat) : Prop := ∀ i, W.getD i 0 < 18446744073709551616

/-- The sum over the words. -/
def sumW (a : Nat → Nat) : Nat → Nat
  | 0 => 0
  | n + 1 => sumW a n + a n

theorem sum_cnt (f : Nat → Bool) (nw : Nat) (a : Nat → Nat) (h : ∀ i, i < nw → a i = cnt (fun b => f (64 * i + b)) 64) : sumW a nw = cnt f (64 * nw) := by
  induction nw with
  | zero => rfl
  | succ nw ih =>
    rw [sumW, ih (fun i hi => h i (by omega)), h nw (by omega), show 64 * (nw + 1) = 64 * nw + 64 by omega, cnt_add]

/-- A word's index behind t steps round. -/
def wIdx (nw j0 t : Nat) : Nat := (j0 + t) % nw
/-- Has word i been met within t steps? -/
def seen (nw j0 t i : Nat) : Prop := (i + nw - j0) % nw < t
/-- The words that have been met hold g, the others f. -/
def patch (f g : Nat → Nat) (nw j0 t : Nat) : List Nat := (List.range nw).map fun i => if (i + nw - j0) % nw < t then g i else f i

theorem patch_length (f g : Nat → Nat) (nw j0 t : Nat) : (patch f g nw j0 t).length = nw := by simp [patch]
theorem patch_getD (f g : Nat → Nat) (nw j0 t i : Nat) (hi : i < nw) : (patch f g nw j0 t).getD i 0 = if (i + nw - j0) % nw < t then g i else f i := by
  simp [patch, List.getD, hi]
theorem nw_cases {nw : Nat} (h0 : 0 < nw) (h3 : nw ≤ 3) : nw = 1 ∨ nw = 2 ∨ nw = 3 := by omega
theorem wIdx_lt {nw j0 t : Nat} (h0 : 0 < nw) : wIdx nw j0 t < nw := Nat.mod_lt _ h0
theorem wIdx_seen {nw j0 t : Nat} (h0 : 0 < nw) (h3 : nw ≤ 3) (hj : j0 < nw) (ht : t < nw) : (wIdx nw j0 t + nw - j0) % nw = t := by
  unfold wIdx
  rcases nw_cases h0 h3 with rfl | rfl | rfl <;> omega
theorem wIdx_succ {nw j0 t : Nat} (h0 : 0 < nw) (h3 : nw ≤ 3) : wIdx nw j0 (t + 1) = if wIdx nw j0 t + 1 = nw then 0 else wIdx nw j0 t + 1 := by
  unfold wIdx
  rcases nw_cases h0 h3 with rfl | rfl | rfl <;> split <;> omega
theorem seen_eq {nw j0 t i : Nat} (h0 : 0 < nw) (h3 : nw ≤ 3) (hj : j0 < nw) (ht : t < nw) (hi : i < nw) (h : (i + nw - j0) % nw = t) : i = wIdx nw j0 t := by
  unfold wIdx
  rcases nw_cases h0 h3 with rfl | rfl | rfl <;> omega

theorem patch_at {f g : Nat → Nat} {nw j0 t : Nat} (h0 : 0 < nw) (h3 : nw ≤ 3) (hj : j0 < nw) (ht : t < nw) : (patch f g nw j0 t).getD (wIdx nw j0 t) 0 = f (wIdx nw j0 t) := by
  rw [patch_getD _ _ _ _ _ _ (wIdx_lt h0), wIdx_seen h0 h3 hj ht, if_neg (Nat.lt_irrefl _)]
theorem patch_step {f g : Nat → Nat} {nw j0 t : Nat} (h0 : 0 < nw) (h3 : nw ≤ 3) (hj : j0 < nw) (ht : t < nw) : (patch f g nw j0 t).set (wIdx nw j0 t) (g (wIdx nw j0 t)) = patch f g nw j0 (t + 1) := by
  apply List.ext_getElem?
  intro i
  by_cases hi : i < nw
  · by_cases e : wIdx nw j0 t = i
    · subst e
      rw [List.getElem?_set_self (by rw [patch_length]; exact hi)]
      simp [patch, hi, wIdx_seen h0 h3 hj ht]
    · rw [List.getElem?_set_ne e]
      have hne : ¬ (i + nw - j0) % nw = t := fun h => e (seen_eq h0 h3 hj ht hi h).symm
      simp only [patch, List.getElem?_map, List.getElem?_range hi, Option.map_some]
      by_cases hs : (i + nw - j0) % nw < t
      · rw [if_pos hs, if_pos (by omega)]
      · rw [if_neg hs, if_neg (by omega)]
  · rw [List.getElem?_eq_none (by simp [patch_length]; omega), List.getElem?_eq_none (by simp [patch_length]; omega)]
theorem patch_zero (f g : Nat → Nat) (nw j0 : Nat) : patch f g nw j0 0 = (List.range nw).map f := by simp [patch]
theorem patch_all {f g : Nat → Nat} {nw j0 n : Nat} (h : ∀ i, i < nw → ¬ seen nw j0 n i → f i = g i) : patch f g nw j0 n = (List.range nw).map g := by
  unfold patch
  apply List.map_congr_left
  intro i hi
  have hi' := List.mem_range.1 hi
  split
  · rfl
  · exact h i hi' (by assumption)

/-- The sum over the words that are met. -/
def addTo (nw j0 : Nat) (a : Nat → Nat) : Nat → Nat
  | 0 => 0
  | t + 1 => addTo nw j0 a t + a (wIdx nw j0 t)
theorem addTo_all {nw j0 n : Nat} (a : Nat → Nat) (h0 : 0 < nw) (h3 : nw ≤ 3) (hj : j0 < nw) (hn : n ≤ nw) (h : ∀ i, i < nw → ¬ seen nw j0 n i → a i = 0) : addTo nw j0 a n = sumW a nw := by
  unfold seen at h
  rcases nw_cases h0 h3 with rfl | rfl | rfl
  · obtain rfl : j0 = 0 := by omega
    have := h 0 (by omega)
    rcases (show n = 0 ∨ n = 1 by omega) with rfl | rfl <;> simp [addTo, sumW, wIdx] at * <;> omega
  · have a0 := h 0 (by omega)
    have a1 := h 1 (by omega)
    rcases (show j0 = 0 ∨ j0 = 1 by omega) with rfl | rfl <;> rcases (show n = 0 ∨ n = 1 ∨ n = 2 by omega) with rfl | rfl | rfl <;> simp [addTo, sumW, wIdx] at * <;> omega
  · have a0 := h 0 (by omega)
    have a1 := h 1 (by omega)
    have a2 := h 2 (by omega)
    rcases (show j0 = 0 ∨ j0 = 1 ∨ j0 = 2 by omega) with rfl | rfl | rfl <;> rcases (show n = 0 ∨ n = 1 ∨ n = 2 ∨ n = 3 by omega) with rfl | rfl | rfl | rfl <;> simp [addTo, sumW, wIdx] at * <;> omega

end Go.Proofs.Ybulkddhs
