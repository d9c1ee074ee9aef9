import Derived.Test.YbulkddfaLawSet
import Derived.Deep.RegionHeld3
import Derived.Deep.QuietTactic
import Derived.BigQuiet
import Derived.Lib.LazyBuf
namespace Go.Proofs.Ybulkddfa
open Go.RowKit

theorem info28 : (Yba.prog.info? 28).map (fun i => (i.zero, i.size, i.bytes)) = some (some (.agg #[.int .u32 0, .string ByteArray.empty]), 2, 24) := by kernel_rfl

theorem own_full {W : World} {base g C size : Nat} {e : TypeId} {xs : List Value} (h : W.ownsRow base e size (.slice (some ⟨g, 0, .none⟩) C C) C xs) : ∃ cur : List Value, W.heap[g]? = some (.cells cur.toArray e (0, 0)) ∧ cur.length = C * size := by
  rcases h.2 with ⟨q, _⟩ | ⟨g', cap, cur, q, _, hg, _, _, hs, _⟩
  · cases q
  · simp at q
    obtain ⟨rfl, rfl⟩ := q
    exact ⟨cur.toList, by simpa using hg, by simpa using hs⟩

/-- The first k pairs of a row. -/
def Pairs (k : IntKind) (F : Nat → Int) (N : Nat → ByteArray) (cur : List Value) (n : Nat) : Prop :=
  ∀ i, i < n → cur[i * 2]? = some (.int k (F i)) ∧ cur[i * 2 + 1]? = some (.string (N i))

theorem Pairs.step {k : IntKind} {F : Nat → Int} {N : Nat → ByteArray} {cur : List Value} {n : Nat} (h : Pairs k F N cur n) (hl : n * 2 + 1 < cur.length) :
    Pairs k F N ((cur.set (n * 2) (.int k (F n))).set (n * 2 + 1) (.string (N n))) (n + 1) := by
  intro i hi
  by_cases e : i = n
  · subst e
    constructor
    · rw [List.getElem?_set_ne (by omega), List.getElem?_set_self (by omega)]
    · rw [List.getElem?_set_self (by simp; omega)]
  · obtain ⟨h1, h2⟩ := h i (by omega)
    constructor
    · rw [List.getElem?_set_ne (by omega), List.getElem?_set_ne (by omega)]; exact h1
    · rw [List.getElem?_set_ne (by omega), List.getElem?_set_ne (by omega)]; exact h2

theorem row_set {w : World} {g k : Nat} {e : TypeId} {cur : List Value} (v : Value) (hg : w.heap[g]? = some (.cells cur.toArray e (0, 0))) : (w.setCell ⟨g, k, .none⟩ v).heap[g]? = some (.cells (cur.set k v).toArray e (0, 0)) := by
  simp [World.setCell, Array.getElem?_modify, hg]

/-- The name of the next set flag stands where the names of those before it end. -/
theorem sel_next {k : IntKind} {s : Int} {F : Nat → Int} {N : Nat → ByteArray} {t n : Nat} (ht : t < n) (h : (bits .and k s (F t) != 0) = true) :
    (sel k s F N n)[(sel k s F N t).length]? = some (N t) ∧ (sel k s F N t).length < (sel k s F N n).length := by
  have hp := sel_prefix (k := k) (s := s) (F := F) (N := N) (t + 1) (n - (t + 1))
  rw [show t + 1 + (n - (t + 1)) = n by omega, sel_yes h] at hp
  obtain ⟨r, hr⟩ := hp
  rw [← hr]
  simp

theorem sel_none {k : IntKind} {s : Int} {F : Nat → Int} {N : Nat → ByteArray} {t n : Nat} (ht : t < n) (h : sel k s F N n = []) : (bits .and k s (F t) == 0) = true := by
  by_cases hb : (bits .and k s (F t) != 0) = true
  · have := (sel_next ht hb (N := N)).2
    rw [h] at this
    simp at this
  · simpa using hb

/-- The cells of a row that the call owns. -/
theorem got_cell {w : World} {g n : Nat} {cur : Array Value} {e : TypeId} {xs : List ByteArray} (hg : w.heap[g]? = some (.cells cur e (0, 0))) (hx : cur.toList.take (n * 1) = xs.map .string) {j : Nat} {x : ByteArray} (hj : xs[j]? = some x) :
    w.cell? ⟨g, j, .none⟩ = some (.string x) := by
  rw [cell_of_row w g j cur e (0, 0) hg]
  have h1 : (xs.map Value.string)[j]? = some (.string x) := by rw [List.getElem?_map, hj]; rfl
  rw [← hx, List.getElem?_take] at h1
  split at h1
  · simpa using h1
  · cases h1

set_option maxHeartbeats 1000000 in
theorem law32 (s : Int) (F : Nat → Int) (N : Nat → ByteArray) (b off len cap : Nat) (w : World) (hb : b < w.heap.size) (hn : len ≤ 1024)
    (hc : ∀ i, i < len → w.cell? ⟨b, off + i * 2, .none⟩ = some (.int .u32 (F i)) ∧ w.cell? ⟨b, off + i * 2 + 1, .none⟩ = some (.string (N i))) :
    Calls Yba.prog 3 #[.int .u32 s, .slice (some ⟨b, off, .none⟩) len cap] w fun e w' => e = .returned (.bool true) ∧ Below w.heap.size w w' := by
  obtain ⟨i0, hi, hz0, hz1, hz2⟩ := info_parts info28
  have HC : Hid (∀ i, i < len → w.cell? ⟨b, off + i * 2, .none⟩ = some (.int .u32 (F i)) ∧ w.cell? ⟨b, off + i * 2 + 1, .none⟩ = some (.string (N i))) := hc
  clear hc
  have hbc : i0.bytes * len ≤ 281474976710656 := by rw [hz2]; omega
  have hlong : decide ((1024 : Int) < len) = false := by simp; omega
  go_enter Yba.func3, Yba.ntmps3
  go_wp2_with (at_make; refine wpList_make_full _ rfl _ _ 24 rfl w.heap.size 28 i0 _ 2 Yba.underlying24 hi hz0 hz1 .i64 .i64 _ _ len rfl rfl rfl rfl hbc (by unfold maxLen; omega) (Nat.le_refl _) ?_)
  intro W hown hgrow
  obtain ⟨cur0, hblk0, hcl0⟩ := own_full hown
  have hB0 : Below w.heap.size w W := (Below.refl _ _).grown hgrow (Nat.le_refl _) (fun k hk => by cases hk)
  clear hown hgrow
  go_wp2
  go_loopw [6] (fun i wr => ∃ (k : Nat) (cur : List Value), k ≤ len ∧ i = .int .i64 k ∧ wr.heap[w.heap.size]? = some (.cells cur.toArray 28 (0, 0)) ∧ cur.length = len * 2 ∧ Pairs .u32 F N cur k ∧ Below w.heap.size w wr) (fun i _ => len - (intOf i).toNat)
  case atStart => exact ⟨0, cur0, Nat.zero_le _, rfl, hblk0, hcl0, (fun i hi => by omega), hB0⟩
  case round =>
    obtain ⟨k, cur, hk, rfl, hblk, hcl, hpr, hB⟩ := hrel
    have hlt : w.heap.size < wr.heap.size := by
      rcases Nat.lt_or_ge w.heap.size wr.heap.size with h | h
      · exact h
      · rw [Array.getElem?_eq_none h] at hblk; cases hblk
    by_cases hkl : k < len
    · obtain ⟨hc0, hc1⟩ := HC.out k hkl
      rw [← hB.cell (p := ⟨b, off + k * 2, .none⟩) hb] at hc0
      rw [← hB.cell (p := ⟨b, off + k * 2 + 1, .none⟩) hb] at hc1
      have hd0 : wr.cell? ⟨w.heap.size, k * 2, .none⟩ = some cur[k * 2] := by rw [cell_of_row wr w.heap.size _ cur.toArray 28 (0, 0) hblk]; simp
      have hd1 : wr.cell? ⟨w.heap.size, k * 2 + 1, .none⟩ = some cur[k * 2 + 1] := by rw [cell_of_row wr w.heap.size _ cur.toArray 28 (0, 0) hblk]; simp
      have hf0 : wr.frozen? ⟨w.heap.size, k * 2, .none⟩ = false := by simp [World.frozen?, hblk]
      have hf1 : wr.frozen? ⟨w.heap.size, k * 2 + 1, .none⟩ = false := by simp [World.frozen?, hblk]
      have hset : Hid ((((wr.setCell ⟨w.heap.size, k * 2, .none⟩ (.int .u32 (F k))).setCell ⟨w.heap.size, k * 2 + 1, .none⟩ (.string (N k))).heap[w.heap.size]? = some (.cells ((cur.set (k * 2) (.int .u32 (F k))).set (k * 2 + 1) (.string (N k))).toArray 28 (0, 0)))) := row_set _ (row_set _ hblk)
      have hkI : (k : Int) < len := by omega
      have hBn : Below w.heap.size w ((wr.setCell ⟨w.heap.size, k * 2, .none⟩ (.int .u32 (F k))).setCell ⟨w.heap.size, k * 2 + 1, .none⟩ (.string (N k))).drew := ((hB.setCell (Nat.le_refl _) _).setCell (Nat.le_refl _) _).drew
      have hkeep : Hid (((wr.setCell ⟨w.heap.size, k * 2, .none⟩ (.int .u32 (F k))).setCell ⟨w.heap.size, k * 2 + 1, .none⟩ (.string (N k))).drew.cell? ⟨b, off + k * 2, .none⟩ = some (.int .u32 (F k)) ∧
          ((wr.setCell ⟨w.heap.size, k * 2, .none⟩ (.int .u32 (F k))).setCell ⟨w.heap.size, k * 2 + 1, .none⟩ (.string (N k))).drew.cell? ⟨b, off + k * 2 + 1, .none⟩ = some (.string (N k))) :=
        ⟨(hBn.cell (p := ⟨b, off + k * 2, .none⟩) hb).trans (HC.out k hkl).1, (hBn.cell (p := ⟨b, off + k * 2 + 1, .none⟩) hb).trans (HC.out k hkl).2⟩
      clear hblk
      go_wp2
      go_region_held3 (fun w' => w'.cell? ⟨b, off + k * 2, .none⟩ = some (.int .u32 (F k)) ∧ w'.cell? ⟨b, off + k * 2 + 1, .none⟩ = some (.string (N k))) (first | exact hkeep.out | go_keep) (fail)
      go_wp2
      go_roundw
      case rel => exact ⟨k + 1, _, by omega, by go_num, hset.out, by simp [hcl], hpr.step (by omega), hBn⟩
      case measure => simp [intOf]; omega
    · obtain rfl : k = len := by omega
      have hin : ∀ i, i < k → wr.cell? ⟨w.heap.size, i * 2, .none⟩ = some (.int .u32 (F i)) ∧ wr.cell? ⟨w.heap.size, i * 2 + 1, .none⟩ = some (.string (N i)) := fun i hi => by
        obtain ⟨h1, h2⟩ := hpr i hi
        exact ⟨by rw [cell_of_row wr w.heap.size _ cur.toArray 28 (0, 0) hblk]; simpa using h1, by rw [cell_of_row wr w.heap.size _ cur.toArray 28 (0, 0) hblk]; simpa using h2⟩
      have HIN : Hid (∀ i, i < k → wr.cell? ⟨w.heap.size, i * 2, .none⟩ = some (.int .u32 (F i)) ∧ wr.cell? ⟨w.heap.size, i * 2 + 1, .none⟩ = some (.string (N i))) := hin
      clear hblk hin hpr
      go_wp2_with (first | (go_at_call 5; refine (set32 s F N k w.heap.size _ hlt hn HIN.out).mono ?_; rintro e w3 ⟨v, rfl, hown, hnil, hb3⟩))
      have HC3 : Hid (∀ i, i < k → w3.cell? ⟨b, off + i * 2, .none⟩ = some (.int .u32 (F i)) ∧ w3.cell? ⟨b, off + i * 2 + 1, .none⟩ = some (.string (N i))) := fun i hi =>
        ⟨((hb3.cell (p := ⟨b, off + i * 2, .none⟩) (Nat.lt_of_lt_of_le hb hB.size)).trans (hB.cell (p := ⟨b, off + i * 2, .none⟩) hb)).trans (HC.out i hi).1,
          ((hb3.cell (p := ⟨b, off + i * 2 + 1, .none⟩) (Nat.lt_of_lt_of_le hb hB.size)).trans (hB.cell (p := ⟨b, off + i * 2 + 1, .none⟩) hb)).trans (HC.out i hi).2⟩
      have HI3 : Hid (∀ i, i < k → w3.cell? ⟨w.heap.size, i * 2, .none⟩ = some (.int .u32 (F i)) ∧ w3.cell? ⟨w.heap.size, i * 2 + 1, .none⟩ = some (.string (N i))) := fun i hi =>
        ⟨(hb3.cell (p := ⟨w.heap.size, i * 2, .none⟩) hlt).trans (HIN.out i hi).1, (hb3.cell (p := ⟨w.heap.size, i * 2 + 1, .none⟩) hlt).trans (HIN.out i hi).2⟩
      have hB3 : Below w.heap.size w w3 := hB.trans (hb3.mono (Nat.le_of_lt hlt))
      clear HC HIN hb3 hB
      by_cases hsel : sel .u32 s F N k = []
      · have hv := hnil hsel
        have HS : Hid (sel .u32 s F N k = []) := hsel
        clear hown hnil hsel
        subst hv
        go_wp2
        go_loopw [8, 9] (fun j i wr => ∃ t nq : Nat, t ≤ k ∧ i = .int .i64 t ∧ j = .int .i64 0 ∧ wr = w3.drewN nq) (fun _ i _ => k - (intOf i).toNat)
        case atStart => exact ⟨0, 0, Nat.zero_le _, rfl, rfl, rfl⟩
        case round =>
          obtain ⟨t, nq, ht, rfl, rfl, rfl⟩ := hrel
          by_cases htk : t < k
          · obtain ⟨hc0, hc1⟩ := HC3.out t htk
            have hz := sel_none htk HS.out
            have htI : (t : Int) < k := by omega
            go_wp2
            go_roundw
            case rel => exact ⟨t + 1, _, by omega, by go_num, rfl, rfl⟩
            case measure => simp [intOf]; omega
          · obtain rfl : t = k := by omega
            have heq : ∀ w, (binOp .eql 29 (.slice .none 0 0) (.slice .none 0 0)).run Yba.prog w = .ok (.bool true) w := fun w => Lib.run_eql_slice_nil (P := Yba.prog) w 29 9 .none 0 0 0 0 Yba.underlying29
            go_wp2
            go_loopw [10] (fun i wr => ∃ x nq : Nat, x ≤ t ∧ i = .int .i64 x ∧ wr = w3.drewN nq) (fun i _ => t - (intOf i).toNat)
            case atStart => exact ⟨0, nq, Nat.zero_le _, rfl, rfl⟩
            case round =>
              obtain ⟨x, nq, ht, rfl, rfl⟩ := hrel
              by_cases htk : x < t
              · obtain ⟨hc0, hc1⟩ := HC3.out x htk
                obtain ⟨hd0, hd1⟩ := HI3.out x htk
                have htI : (x : Int) < t := by omega
                have hne : ((F x) != (F x)) = false := by simp
                go_wp2
                go_quiet (fail)
                go_wp2
                go_roundw
                case rel => exact ⟨x + 1, _, by omega, by go_num, rfl⟩
                case measure => simp [intOf]; omega
              · go_wp2
                go_ret
                exact ⟨rfl, below_drewN hB3 _⟩
      · rcases hown.2 with ⟨_, h0⟩ | ⟨g, c, cur3, hv, _, hg3, hle, _, hs3, hx3⟩
        · exact absurd (List.eq_nil_of_length_eq_zero h0) hsel
        subst hv
        obtain ⟨m, hm⟩ : ∃ m, m = (sel .u32 s F N k).length := ⟨_, rfl⟩
        have hmk := sel_le (k := .u32) (s := s) (F := F) (N := N) k
        rw [← hm] at hmk hle hx3 ⊢
        have HG : Hid (∀ j x, (sel .u32 s F N k)[j]? = some x → w3.cell? ⟨g, j, .none⟩ = some (.string x)) := fun j x hj => got_cell hg3 hx3 hj
        have HM : Hid (m = (sel .u32 s F N k).length) := hm
        have hm0 : 0 < m := by have := List.length_pos_iff.2 hsel; omega
        clear hm hown hnil hg3 hx3 hs3 hsel
        go_wp2
        go_loopw [8, 9] (fun j i wr => ∃ t nq : Nat, t ≤ k ∧ i = .int .i64 t ∧ j = .int .i64 ((sel .u32 s F N t).length : Nat) ∧ wr = w3.drewN nq) (fun _ i _ => k - (intOf i).toNat)
        case atStart => exact ⟨0, 0, Nat.zero_le _, rfl, rfl, rfl⟩
        case round =>
          obtain ⟨t, nq, ht, rfl, rfl, rfl⟩ := hrel
          by_cases htk : t < k
          · obtain ⟨hc0, hc1⟩ := HC3.out t htk
            by_cases hbit : (bits .and .u32 s (F t) != 0) = true
            · have hz : (bits .and .u32 s (F t) == 0) = false := by simpa using hbit
              obtain ⟨q1, q2⟩ := sel_next htk hbit (N := N)
              have hgc := HG.out _ _ q1
              rw [← HM.out] at q2
              have HS : Hid ((sel .u32 s F N (t + 1)).length = (sel .u32 s F N t).length + 1) := by show _ = _; rw [sel_yes hbit]; simp
              clear q1 hbit
              generalize (sel .u32 s F N t).length = jn at *
              have hd : decide ((m : Int) ≤ (jn : Int)) = false := by simp; omega
              have hjI : (jn : Int) < m := by omega
              have htI : (t : Int) < k := by omega
              go_wp2
              go_quiet (fail)
              go_wp2
              go_roundw
              case rel => exact ⟨t + 1, _, by omega, by go_num, by rw [HS.out]; go_num, rfl⟩
              case measure => simp [intOf]; omega
            · have hbit' : (bits .and .u32 s (F t) != 0) = false := by simpa using hbit
              have hz : (bits .and .u32 s (F t) == 0) = true := by simpa using hbit
              have HS : Hid ((sel .u32 s F N (t + 1)).length = (sel .u32 s F N t).length) := by show _ = _; rw [sel_no hbit']
              clear hbit hbit'
              generalize (sel .u32 s F N t).length = jn at *
              have htI : (t : Int) < k := by omega
              go_wp2
              go_roundw
              case rel => exact ⟨t + 1, _, by omega, by go_num, by rw [HS.out], rfl⟩
              case measure => simp [intOf]; omega
          · obtain rfl : t = k := by omega
            rw [← HM.out]
            have heq : ∀ w, (binOp .eql 29 (.slice (some ⟨g, 0, .none⟩) m c) (.slice .none 0 0)).run Yba.prog w = .ok (.bool false) w := fun w => Lib.run_eql_slice_nil (P := Yba.prog) w 29 9 (some ⟨g, 0, .none⟩) m c 0 0 Yba.underlying29
            have hm1 : ((m : Int) == 0) = false := beq_eq_false_iff_ne.2 (by omega)
            have hm2 : ((m : Int) != (m : Int)) = false := by simp
            go_wp2
            go_loopw [10] (fun i wr => ∃ x nq : Nat, x ≤ t ∧ i = .int .i64 x ∧ wr = w3.drewN nq) (fun i _ => t - (intOf i).toNat)
            case atStart => exact ⟨0, nq, Nat.zero_le _, rfl, rfl⟩
            case round =>
              obtain ⟨x, nq, ht, rfl, rfl⟩ := hrel
              by_cases htk : x < t
              · obtain ⟨hc0, hc1⟩ := HC3.out x htk
                obtain ⟨hd0, hd1⟩ := HI3.out x htk
                have htI : (x : Int) < t := by omega
                have hne : ((F x) != (F x)) = false := by simp
                go_wp2
                go_quiet (fail)
                go_wp2
                go_roundw
                case rel => exact ⟨x + 1, _, by omega, by go_num, rfl⟩
                case measure => simp [intOf]; omega
              · go_wp2
                go_ret
                exact ⟨rfl, below_drewN hB3 _⟩

end Go.Proofs.Ybulkddfa
