import Derived.Test.YbulkddhsLawBase
namespace Go.Proofs.Ybulkddhs
open Go.RowKit

set_option maxHeartbeats 400000 in
theorem pool_any (RB : Nat) (w : World) :
    Calls Yba.prog 4 #[.slice (some ⟨RB, 0, .none⟩) 1 1] w fun e w' => e = .returned (.pointer (some ⟨w.heap.size + 1, 0, .none⟩)) ∧
      w' = (w.alloc (.cells #[.slice .none 0 0] 54)).alloc (.cells #[.slice (some ⟨RB, 0, .none⟩) 1 1, .slice (some ⟨w.heap.size, 0, .none⟩) 1 1] 49) := by
  have hmk : ∀ w, (Instr.makeSlice 47 (.int .i64 1) (.int .i64 1)).run Yba.prog w = .ok (.slice (some ⟨w.heap.size, 0, .none⟩) 1 1) (w.alloc (.cells #[.slice .none 0 0] 54)) := fun _ => by kernel_rfl
  go_enter Yba.func4, Yba.ntmps4
  go_wp2
  go_ret
  exact ⟨rfl, rfl⟩

theorem info39 : (Yba.prog.info? 39).map (fun i => (i.zero, i.size, i.bytes)) = some (some (.int .u64 0), 1, 8) := by kernel_rfl

theorem wordCells_one (W : List Nat) : ∀ u ∈ wordCells W, u.oneCell' = true := by
  intro u hu
  obtain ⟨_, _, rfl⟩ := List.mem_map.1 hu
  rfl

/-- A slice of words that holds W: its cells. -/
def WordsAt (w : World) (g : Nat) (W : List Nat) : Prop := ∃ cur, Blk w g cur 39 ∧ cur.take W.length = wordCells W

theorem WordsAt.cell {w : World} {g : Nat} {W : List Nat} (h : WordsAt w g W) (i : Nat) (hi : i < W.length) : w.cell? ⟨g, i, .none⟩ = some (.int .u64 ((W.getD i 0 : Nat) : Int)) := by
  obtain ⟨cur, hb, ht⟩ := h
  rw [hb.cell, ← wordCells_get W i hi, ← ht, List.getElem?_take, if_pos hi]
theorem WordsAt.of {w : World} {g : Nat} {W : List Nat} (h : Blk w g (wordCells W) 39) : WordsAt w g W := ⟨_, h, by rw [← wordCells_length W]; exact List.take_length⟩
theorem WordsAt.kept {w w' : World} {g : Nat} {W : List Nat} {bs : List Nat} (h : WordsAt w g W) (hk : KeptBut bs w w') (hn : g ∉ bs) : WordsAt w' g W := by
  obtain ⟨cur, hb, ht⟩ := h
  exact ⟨cur, hb.kept hk hn, ht⟩
theorem WordsAt.lt {w : World} {g : Nat} {W : List Nat} (h : WordsAt w g W) : g < w.heap.size := by
  obtain ⟨cur, hb, _⟩ := h
  exact hb.lt

set_option maxHeartbeats 400000 in
/-- slices.Clone. -/
theorem clone_any (Wb cp : Nat) (W : List Nat) (w : World) (hb : WordsAt w Wb W) (h0 : 0 < W.length) (h3 : W.length ≤ 3) :
    Calls Yba.prog 7 #[.slice (some ⟨Wb, 0, .none⟩) W.length cp] w fun e w' => ∃ g c, e = .returned (.slice (some ⟨g, 0, .none⟩) W.length c) ∧ w.heap.size ≤ g ∧ WordsAt w' g W ∧ KeptBut [] w w' := by
  obtain ⟨i0, hi, hz0, hz1, hz2⟩ := info_parts info39
  have heq : ∀ w n c, (binOp .eql 37 (.slice (some ⟨Wb, 0, .none⟩) n c) (.slice .none 0 0)).run Yba.prog w = .ok (.bool false) w := fun w n c => Lib.run_eql_slice_nil (P := Yba.prog) w 37 39 (some ⟨Wb, 0, .none⟩) n c 0 0 Yba.underlying37
  have hlt := hb.lt
  have HB : Hid (WordsAt w Wb W) := hb
  clear hb
  obtain ⟨n, hn⟩ : ∃ n, n = W.length := ⟨_, rfl⟩
  rw [← hn] at h0 h3
  have HN : Hid (n = W.length) := hn
  rw [← hn]
  clear hn
  go_enter Yba.func7, Yba.ntmps7
  go_wp2_with (at_builtin; refine wpList_append_own _ rfl (.tmp 5) (.tmp 6) 37 rfl w.heap.size 39 i0 (.int .u64 0) 1 8 Yba.underlying37 hi hz0 hz1 hz2 rfl (by decide) _ 0 [] rfl ?own ⟨Wb, 0, .none⟩ n cp (wordCells W) rfl ?c0 ?c1 (wordCells_one W) ?c3 ?c4 ?c5 ?_)
  case own => exact World.ownsRow_made w #[] 0 (Nat.le_refl _) (by unfold maxLen; omega) rfl
  case c0 => rw [wordCells_length, ← HN.out, Nat.mul_one]
  case c1 =>
    intro j u hj
    have hjl : j < W.length := by have := (List.getElem?_eq_some_iff.1 hj).1; rw [wordCells_length] at this; exact this
    have := HB.out.cell j hjl
    rw [← wordCells_get W j hjl, hj] at this
    rw [Addr.add_lit, Nat.zero_add]
    have e : (w.alloc (.cells #[] 39)).cell? ⟨Wb, j, .none⟩ = w.cell? ⟨Wb, j, .none⟩ := World.cell?_of_block (Below.heap_alloc w _ Wb hlt)
    rw [e]; exact this
  case c3 => unfold maxLen; omega
  case c4 => omega
  case c5 => simp
  intro v' w1 hown hgrow hv'
  rcases hown.2 with ⟨_, hbad⟩ | ⟨g, c, cur, hv, hg, hblk, hle, _, hs, hx⟩
  · omega
  subst hv
  have hbel : Below w.heap.size w w1 := ((Below.refl _ _).alloc (Nat.le_refl _) _).grown hgrow (by simp) (fun k hk => by simp [Value.ownBlock] at hk; omega)
  have hW : WordsAt w1 g W := ⟨cur.toList, by simpa [Blk] using hblk, by rw [← HN.out]; simpa using hx⟩
  clear hown hgrow hv' hx hs hblk HB
  go_wp2
  go_ret
  refine ⟨g, c, ?_, hg, hW, KeptBut.below hbel (Nat.le_refl _)⟩
  simp

set_option maxHeartbeats 400000 in
/-- slices.Equal on two slices that hold the same. -/
theorem equal_any (A B c1 c2 : Nat) (W : List Nat) (w : World) (hA : WordsAt w A W) (hB : WordsAt w B W) (h3 : W.length ≤ 3) :
    Calls Yba.prog 9 #[.slice (some ⟨A, 0, .none⟩) W.length c1, .slice (some ⟨B, 0, .none⟩) W.length c2] w fun e w' => e = .returned (.bool true) ∧ ∃ n, w' = w.drewN n := by
  have HA : Hid (∀ i, i < W.length → w.cell? ⟨A, i, .none⟩ = some (.int .u64 ((W.getD i 0 : Nat) : Int))) := fun i hi => hA.cell i hi
  have HB : Hid (∀ i, i < W.length → w.cell? ⟨B, i, .none⟩ = some (.int .u64 ((W.getD i 0 : Nat) : Int))) := fun i hi => hB.cell i hi
  clear hA hB
  go_enter Yba.func9, Yba.ntmps9
  go_wp2
  go_loopw [13] (fun i wr => ∃ k nq : Nat, k ≤ W.length ∧ i = .int .i64 k ∧ wr = w.drewN nq) (fun i _ => W.length - (intOf i).toNat)
  case atStart => exact ⟨0, 0, Nat.zero_le _, rfl, rfl⟩
  case round =>
    obtain ⟨k, nq, hk, rfl, rfl⟩ := hrel
    by_cases hlt : k < W.length
    · have a1 := HA.out k hlt
      have b1 := HB.out k hlt
      generalize W.getD k 0 = z at *
      have hne : ((z : Int) != (z : Int)) = false := by simp
      have hkI : (k : Int) < W.length := by omega
      go_wp2
      go_quiet (fail)
      go_wp2
      go_roundw
      case rel => exact ⟨k + 1, _, by omega, by go_num, rfl⟩
      case measure => simp [intOf]; omega
    · go_wp2
      go_ret
      exact ⟨rfl, nq, rfl⟩

end Go.Proofs.Ybulkddhs
