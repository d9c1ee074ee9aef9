import Derived.Test.YbulkddfaLaw32
namespace Go.Proofs.Ybulkddfa
open Go.RowKit

theorem info38 : (Yba.prog.info? 38).map (fun i => (i.zero, i.size, i.bytes)) = some (some (.agg #[.int .u64 0, .string ByteArray.empty]), 2, 24) := by kernel_rfl

set_option maxHeartbeats 1000000 in
theorem set64 (s : Int) (F : Nat → Int) (N : Nat → ByteArray) (n B : Nat) (w : World) (hB : B < w.heap.size) (hn : n ≤ 1024)
    (hc : ∀ i, i < n → w.cell? ⟨B, i * 2, .none⟩ = some (.int .u64 (F i)) ∧ w.cell? ⟨B, i * 2 + 1, .none⟩ = some (.string (N i))) :
    Calls Yba.prog 6 #[.int .u64 s, .slice (some ⟨B, 0, .none⟩) n n] w fun e w' => ∃ v, e = .returned v ∧ w'.ownsRow w.heap.size 9 1 v (sel .u64 s F N n).length ((sel .u64 s F N n).map .string) ∧
      (sel .u64 s F N n = [] → v = .slice .none 0 0) ∧ Below w.heap.size w w' := by
  obtain ⟨i0, hi, hz0, hz1, hz2⟩ := info_parts info9
  have HC : Hid (∀ i, i < n → w.cell? ⟨B, i * 2, .none⟩ = some (.int .u64 (F i)) ∧ w.cell? ⟨B, i * 2 + 1, .none⟩ = some (.string (N i))) := hc
  clear hc
  go_enter Yba.func6, Yba.ntmps6
  go_wp2
  go_loopw [5, 10] (fun v i wr => ∃ k : Nat, k ≤ n ∧ i = .int .i64 k ∧ wr.ownsRow w.heap.size 9 1 v (sel .u64 s F N k).length ((sel .u64 s F N k).map .string) ∧ (sel .u64 s F N k = [] → v = .slice .none 0 0) ∧ Below w.heap.size w wr) (fun _ i _ => n - (intOf i).toNat)
  case atStart => exact ⟨0, Nat.zero_le _, rfl, World.ownsRow_nil _ _ _ _, fun _ => rfl, Below.refl _ _⟩
  case round =>
    obtain ⟨k, hk, rfl, hown, hnil, hbel⟩ := hrel
    by_cases hlt : k < n
    · obtain ⟨hc0, hc1⟩ := HC.out k hlt
      rw [← hbel.cell (p := ⟨B, k * 2, .none⟩) hB] at hc0
      rw [← hbel.cell (p := ⟨B, k * 2 + 1, .none⟩) hB] at hc1
      have hBr : B < wr.heap.size := Nat.lt_of_lt_of_le hB hbel.size
      have HO : Hid (wr.ownsRow w.heap.size 9 1 u5 (sel .u64 s F N k).length ((sel .u64 s F N k).map .string)) := hown
      clear hown
      by_cases hbit : (bits .and .u64 s (F k) != 0) = true
      · have hl := sel_le (k := .u64) (s := s) (F := F) (N := N) k
        go_wp2_with (at_builtin; refine wpList_append_own _ rfl (.tmp 19) (.tmp 22) 29 rfl w.heap.size 9 i0 (.string ByteArray.empty) 1 16 Yba.underlying29 hi hz0 hz1 hz2 rfl (by decide) u5 (sel .u64 s F N k).length ((sel .u64 s F N k).map .string) rfl ((HO.out.alloc _).alloc _) ⟨wr.heap.size + 1, 0, .none⟩ 1 1 [.string (N k)] rfl rfl ?c1 ?c2 ?c3 ?c4 ?c5 ?_)
        case c1 =>
          intro j u hj
          match j, hj with
          | 0, hj => simp at hj; subst hj; simp [Addr.add, go_sem]
        case c2 => intro u hu; simp at hu; subst hu; rfl
        case c3 => unfold maxLen; omega
        case c4 => omega
        case c5 => have := hbel.size; simp; omega
        intro v' w1 hown' hgrow hv'
        have hb1 : Below w.heap.size w w1 := ((hbel.alloc hbel.size _).alloc (by have := hbel.size; simp; omega) _).grown hgrow (by have := hbel.size; simp; omega) (fun k hk => (HO.out.lt k hk).1)
        have hown2 : w1.ownsRow w.heap.size 9 1 v' (sel .u64 s F N (k + 1)).length ((sel .u64 s F N (k + 1)).map .string) := by
          rw [sel_yes hbit]; simpa using hown'
        have hne : ¬ sel .u64 s F N (k + 1) = [] := by rw [sel_yes hbit]; simp
        clear hown' hgrow hv' HO hc0 hc1
        go_wp2
        go_roundw
        case rel => exact ⟨k + 1, by omega, by go_num, hown2, fun h => absurd h hne, hb1⟩
        case measure => simp [intOf]; omega
      · have hbit' : (bits .and .u64 s (F k) != 0) = false := by simpa using hbit
        clear hbit
        go_wp2
        go_roundw
        case rel => exact ⟨k + 1, by omega, by go_num, by rw [sel_no hbit']; exact HO.out.alloc _, fun h => hnil (by rw [sel_no hbit'] at h; exact h), hbel.alloc hbel.size _⟩
        case measure => simp [intOf]; omega
    · obtain rfl : k = n := by omega
      go_wp2
      go_ret
      exact ⟨_, rfl, hown, hnil, hbel⟩

set_option maxHeartbeats 1000000 in
theorem law64 (s : Int) (F : Nat → Int) (N : Nat → ByteArray) (b off len cap : Nat) (w : World) (hb : b < w.heap.size) (hn : len ≤ 1024)
    (hc : ∀ i, i < len → w.cell? ⟨b, off + i * 2, .none⟩ = some (.int .u64 (F i)) ∧ w.cell? ⟨b, off + i * 2 + 1, .none⟩ = some (.string (N i))) :
    Calls Yba.prog 4 #[.int .u64 s, .slice (some ⟨b, off, .none⟩) len cap] w fun e w' => e = .returned (.bool true) ∧ Below w.heap.size w w' := by
  obtain ⟨i0, hi, hz0, hz1, hz2⟩ := info_parts info38
  have HC : Hid (∀ i, i < len → w.cell? ⟨b, off + i * 2, .none⟩ = some (.int .u64 (F i)) ∧ w.cell? ⟨b, off + i * 2 + 1, .none⟩ = some (.string (N i))) := hc
  clear hc
  have hbc : i0.bytes * len ≤ 281474976710656 := by rw [hz2]; omega
  have hlong : decide ((1024 : Int) < len) = false := by simp; omega
  go_enter Yba.func4, Yba.ntmps4
  go_wp2_with (at_make; refine wpList_make_full _ rfl _ _ 34 rfl w.heap.size 38 i0 _ 2 Yba.underlying34 hi hz0 hz1 .i64 .i64 _ _ len rfl rfl rfl rfl hbc (by unfold maxLen; omega) (Nat.le_refl _) ?_)
  intro W hown hgrow
  obtain ⟨cur0, hblk0, hcl0⟩ := own_full hown
  have hB0 : Below w.heap.size w W := (Below.refl _ _).grown hgrow (Nat.le_refl _) (fun k hk => by cases hk)
  clear hown hgrow
  go_wp2
  go_loopw [6] (fun i wr => ∃ (k : Nat) (cur : List Value), k ≤ len ∧ i = .int .i64 k ∧ wr.heap[w.heap.size]? = some (.cells cur.toArray 38 (0, 0)) ∧ cur.length = len * 2 ∧ Pairs .u64 F N cur k ∧ Below w.heap.size w wr) (fun i _ => len - (intOf i).toNat)
  case atStart => exact ⟨0, cur0, Nat.zero_le _, rfl, hblk0, hcl0, (fun i hi => by omega), hB0⟩
  case round =>
    obtain ⟨k, cur, hk, rfl, hblk, hcl, hpr, hB⟩ := hrel
    have hlt : w.heap.size < wr.heap.size := by
      rcases Nat.lt_or_ge w.heap.size wr.heap.size with h | h
      · exact h
      · rw [Array.getElem?_eq_none h] at hblk; cases hblk
    by_cases hkl : k < len
    · obtain ⟨hc0, hc1⟩ := HC.out k hkl
      rw [← hB.cell (p := ⟨b, off + k * 2, .none⟩) hb] at hc0
      rw [← hB.cell (p := ⟨b, off + k * 2 + 1, .none⟩) hb] at hc1
      have hd0 : wr.cell? ⟨w.heap.size, k * 2, .none⟩ = some cur[k * 2] := by rw [cell_of_row wr w.heap.size _ cur.toArray 38 (0, 0) hblk]; simp
      have hd1 : wr.cell? ⟨w.heap.size, k * 2 + 1, .none⟩ = some cur[k * 2 + 1] := by rw [cell_of_row wr w.heap.size _ cur.toArray 38 (0, 0) hblk]; simp
      have hf0 : wr.frozen? ⟨w.heap.size, k * 2, .none⟩ = false := by simp [World.frozen?, hblk]
      have hf1 : wr.frozen? ⟨w.heap.size, k * 2 + 1, .none⟩ = false := by simp [World.frozen?, hblk]
      have hset : Hid ((((wr.setCell ⟨w.heap.size, k * 2, .none⟩ (.int .u64 (F k))).setCell ⟨w.heap.size, k * 2 + 1, .none⟩ (.string (N k))).heap[w.heap.size]? = some (.cells ((cur.set (k * 2) (.int .u64 (F k))).set (k * 2 + 1) (.string (N k))).toArray 38 (0, 0)))) := row_set _ (row_set _ hblk)
      have hkI : (k : Int) < len := by omega
      have hBn : Below w.heap.size w ((wr.setCell ⟨w.heap.size, k * 2, .none⟩ (.int .u64 (F k))).setCell ⟨w.heap.size, k * 2 + 1, .none⟩ (.string (N k))).drew := ((hB.setCell (Nat.le_refl _) _).setCell (Nat.le_refl _) _).drew
      have hkeep : Hid (((wr.setCell ⟨w.heap.size, k * 2, .none⟩ (.int .u64 (F k))).setCell ⟨w.heap.size, k * 2 + 1, .none⟩ (.string (N k))).drew.cell? ⟨b, off + k * 2, .none⟩ = some (.int .u64 (F k)) ∧
          ((wr.setCell ⟨w.heap.size, k * 2, .none⟩ (.int .u64 (F k))).setCell ⟨w.heap.size, k * 2 + 1, .none⟩ (.string (N k))).drew.cell? ⟨b, off + k * 2 + 1, .none⟩ = some (.string (N k))) :=
        ⟨(hBn.cell (p := ⟨b, off + k * 2, .none⟩) hb).trans (HC.out k hkl).1, (hBn.cell (p := ⟨b, off + k * 2 + 1, .none⟩) hb).trans (HC.out k hkl).2⟩
      clear hblk
      go_wp2
      go_region_held3 (fun w' => w'.cell? ⟨b, off + k * 2, .none⟩ = some (.int .u64 (F k)) ∧ w'.cell? ⟨b, off + k * 2 + 1, .none⟩ = some (.string (N k))) (first | exact hkeep.out | go_keep) (fail)
      go_wp2
      go_roundw
      case rel => exact ⟨k + 1, _, by omega, by go_num, hset.out, by simp [hcl], hpr.step (by omega), hBn⟩
      case measure => simp [intOf]; omega
    · obtain rfl : k = len := by omega
      have hin : ∀ i, i < k → wr.cell? ⟨w.heap.size, i * 2, .none⟩ = some (.int .u64 (F i)) ∧ wr.cell? ⟨w.heap.size, i * 2 + 1, .none⟩ = some (.string (N i)) := fun i hi => by
        obtain ⟨h1, h2⟩ := hpr i hi
        exact ⟨by rw [cell_of_row wr w.heap.size _ cur.toArray 38 (0, 0) hblk]; simpa using h1, by rw [cell_of_row wr w.heap.size _ cur.toArray 38 (0, 0) hblk]; simpa using h2⟩
      have HIN : Hid (∀ i, i < k → wr.cell? ⟨w.heap.size, i * 2, .none⟩ = some (.int .u64 (F i)) ∧ wr.cell? ⟨w.heap.size, i * 2 + 1, .none⟩ = some (.string (N i))) := hin
      clear hblk hin hpr
      go_wp2_with (first | (go_at_call 6; refine (set64 s F N k w.heap.size _ hlt hn HIN.out).mono ?_; rintro e w3 ⟨v, rfl, hown, hnil, hb3⟩))
      have HC3 : Hid (∀ i, i < k → w3.cell? ⟨b, off + i * 2, .none⟩ = some (.int .u64 (F i)) ∧ w3.cell? ⟨b, off + i * 2 + 1, .none⟩ = some (.string (N i))) := fun i hi =>
        ⟨((hb3.cell (p := ⟨b, off + i * 2, .none⟩) (Nat.lt_of_lt_of_le hb hB.size)).trans (hB.cell (p := ⟨b, off + i * 2, .none⟩) hb)).trans (HC.out i hi).1,
          ((hb3.cell (p := ⟨b, off + i * 2 + 1, .none⟩) (Nat.lt_of_lt_of_le hb hB.size)).trans (hB.cell (p := ⟨b, off + i * 2 + 1, .none⟩) hb)).trans (HC.out i hi).2⟩
      have hB3 : Below w.heap.size w w3 := hB.trans (hb3.mono (Nat.le_of_lt hlt))
      clear HC HIN hb3 hB
      by_cases hsel : sel .u64 s F N k = []
      · have hv := hnil hsel
        have HS : Hid (sel .u64 s F N k = []) := hsel
        clear hown hnil hsel
        subst hv
        go_wp2
        go_loopw [8, 9] (fun j i wr => ∃ t nq : Nat, t ≤ k ∧ i = .int .i64 t ∧ j = .int .i64 0 ∧ wr = w3.drewN nq) (fun _ i _ => k - (intOf i).toNat)
        case atStart => exact ⟨0, 0, Nat.zero_le _, rfl, rfl, rfl⟩
        case round =>
          obtain ⟨t, nq, ht, rfl, rfl, rfl⟩ := hrel
          by_cases htk : t < k
          · obtain ⟨hc0, hc1⟩ := HC3.out t htk
            have hz := sel_none htk HS.out
            have htI : (t : Int) < k := by omega
            go_wp2
            go_roundw
            case rel => exact ⟨t + 1, _, by omega, by go_num, rfl, rfl⟩
            case measure => simp [intOf]; omega
          · obtain rfl : t = k := by omega
            have heq : ∀ w, (binOp .eql 29 (.slice .none 0 0) (.slice .none 0 0)).run Yba.prog w = .ok (.bool true) w := fun w => Lib.run_eql_slice_nil (P := Yba.prog) w 29 9 .none 0 0 0 0 Yba.underlying29
            go_wp2
            go_ret
            exact ⟨rfl, below_drewN hB3 _⟩
      · rcases hown.2 with ⟨_, h0⟩ | ⟨g, c, cur3, hv, _, hg3, hle, _, hs3, hx3⟩
        · exact absurd (List.eq_nil_of_length_eq_zero h0) hsel
        subst hv
        obtain ⟨m, hm⟩ : ∃ m, m = (sel .u64 s F N k).length := ⟨_, rfl⟩
        have hmk := sel_le (k := .u64) (s := s) (F := F) (N := N) k
        rw [← hm] at hmk hle hx3 ⊢
        have HG : Hid (∀ j x, (sel .u64 s F N k)[j]? = some x → w3.cell? ⟨g, j, .none⟩ = some (.string x)) := fun j x hj => got_cell hg3 hx3 hj
        have HM : Hid (m = (sel .u64 s F N k).length) := hm
        have hm0 : 0 < m := by have := List.length_pos_iff.2 hsel; omega
        clear hm hown hnil hg3 hx3 hs3 hsel
        go_wp2
        go_loopw [8, 9] (fun j i wr => ∃ t nq : Nat, t ≤ k ∧ i = .int .i64 t ∧ j = .int .i64 ((sel .u64 s F N t).length : Nat) ∧ wr = w3.drewN nq) (fun _ i _ => k - (intOf i).toNat)
        case atStart => exact ⟨0, 0, Nat.zero_le _, rfl, rfl, rfl⟩
        case round =>
          obtain ⟨t, nq, ht, rfl, rfl, rfl⟩ := hrel
          by_cases htk : t < k
          · obtain ⟨hc0, hc1⟩ := HC3.out t htk
            by_cases hbit : (bits .and .u64 s (F t) != 0) = true
            · have hz : (bits .and .u64 s (F t) == 0) = false := by simpa using hbit
              obtain ⟨q1, q2⟩ := sel_next htk hbit (N := N)
              have hgc := HG.out _ _ q1
              rw [← HM.out] at q2
              have HS : Hid ((sel .u64 s F N (t + 1)).length = (sel .u64 s F N t).length + 1) := by show _ = _; rw [sel_yes hbit]; simp
              clear q1 hbit
              generalize (sel .u64 s F N t).length = jn at *
              have hd : decide ((m : Int) ≤ (jn : Int)) = false := by simp; omega
              have hjI : (jn : Int) < m := by omega
              have htI : (t : Int) < k := by omega
              go_wp2
              go_quiet (fail)
              go_wp2
              go_roundw
              case rel => exact ⟨t + 1, _, by omega, by go_num, by rw [HS.out]; go_num, rfl⟩
              case measure => simp [intOf]; omega
            · have hbit' : (bits .and .u64 s (F t) != 0) = false := by simpa using hbit
              have hz : (bits .and .u64 s (F t) == 0) = true := by simpa using hbit
              have HS : Hid ((sel .u64 s F N (t + 1)).length = (sel .u64 s F N t).length) := by show _ = _; rw [sel_no hbit']
              clear hbit hbit'
              generalize (sel .u64 s F N t).length = jn at *
              have htI : (t : Int) < k := by omega
              go_wp2
              go_roundw
              case rel => exact ⟨t + 1, _, by omega, by go_num, by rw [HS.out], rfl⟩
              case measure => simp [intOf]; omega
          · obtain rfl : t = k := by omega
            rw [← HM.out]
            have heq : ∀ w, (binOp .eql 29 (.slice (some ⟨g, 0, .none⟩) m c) (.slice .none 0 0)).run Yba.prog w = .ok (.bool false) w := fun w => Lib.run_eql_slice_nil (P := Yba.prog) w 29 9 (some ⟨g, 0, .none⟩) m c 0 0 Yba.underlying29
            have hm1 : ((m : Int) == 0) = false := beq_eq_false_iff_ne.2 (by omega)
            have hm2 : ((m : Int) != (m : Int)) = false := by simp
            go_wp2
            go_ret
            exact ⟨rfl, below_drewN hB3 _⟩

set_option maxHeartbeats 400000 in
theorem law64_long (s : Int) (ao : Option Addr) (len cap : Nat) (w : World) (hn : 1024 < len) :
    Calls Yba.prog 4 #[.int .u64 s, .slice ao len cap] w fun e w' => e = .returned (.bool true) ∧ Below w.heap.size w w' := by
  have hlong : decide ((1024 : Int) < len) = true := by simp; omega
  go_enter Yba.func4, Yba.ntmps4
  go_wp2
  go_ret
  exact ⟨rfl, Below.refl _ _⟩

set_option maxHeartbeats 1000000 in
theorem law64_empty (s : Int) (ao : Option Addr) (cap : Nat) (w : World) :
    Calls Yba.prog 4 #[.int .u64 s, .slice ao 0 cap] w fun e w' => e = .returned (.bool true) ∧ Below w.heap.size w w' := by
  obtain ⟨i0, hi, hz0, hz1, hz2⟩ := info_parts info38
  have heq : ∀ w, (binOp .eql 29 (.slice .none 0 0) (.slice .none 0 0)).run Yba.prog w = .ok (.bool true) w := fun w => Lib.run_eql_slice_nil (P := Yba.prog) w 29 9 .none 0 0 0 0 Yba.underlying29
  go_enter Yba.func4, Yba.ntmps4
  go_wp2_with (at_make; refine wpList_make_full _ rfl _ _ 34 rfl w.heap.size 38 i0 _ 2 Yba.underlying34 hi hz0 hz1 .i64 .i64 _ _ 0 rfl rfl rfl rfl (by simp) (by unfold maxLen; omega) (Nat.le_refl _) ?_)
  intro W hown hgrow
  obtain ⟨cur0, hblk0, hcl0⟩ := own_full hown
  have hB0 : Below w.heap.size w W := (Below.refl _ _).grown hgrow (Nat.le_refl _) (fun k hk => by cases hk)
  have hlt : w.heap.size < W.heap.size := by
    rcases Nat.lt_or_ge w.heap.size W.heap.size with h | h
    · exact h
    · rw [Array.getElem?_eq_none h] at hblk0; cases hblk0
  clear hown hgrow hblk0 hcl0
  go_wp2
  refine wp_loop_rounds 1 ?_
  rw [rounds_succ]; go_wp2_with (first | (go_at_call 6; refine (set64 s (fun _ => 0) (fun _ => ByteArray.empty) 0 w.heap.size _ hlt (by omega) (fun i hi => by omega)).mono ?_; rintro e w3 ⟨v, rfl, hown, hnil, hb3⟩))
  obtain rfl := hnil rfl
  clear hown hnil
  go_wp2
  refine wp_loop_rounds 1 ?_
  rw [rounds_succ]; go_wp2
  go_ret
  exact ⟨rfl, hB0.trans (hb3.mono (Nat.le_of_lt hlt))⟩

end Go.Proofs.Ybulkddfa
