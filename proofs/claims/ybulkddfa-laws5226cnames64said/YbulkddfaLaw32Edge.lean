import Derived.Test.YbulkddfaLaw32
namespace Go.Proofs.Ybulkddfa
open Go.RowKit

set_option maxHeartbeats 400000 in
theorem law32_long (s : Int) (ao : Option Addr) (len cap : Nat) (w : World) (hn : 1024 < len) :
    Calls Yba.prog 3 #[.int .u32 s, .slice ao len cap] w fun e w' => e = .returned (.bool true) ∧ Below w.heap.size w w' := by
  have hlong : decide ((1024 : Int) < len) = true := by simp; omega
  go_enter Yba.func3, Yba.ntmps3
  go_wp2
  go_ret
  exact ⟨rfl, Below.refl _ _⟩

set_option maxHeartbeats 1000000 in
theorem law32_empty (s : Int) (ao : Option Addr) (cap : Nat) (w : World) :
    Calls Yba.prog 3 #[.int .u32 s, .slice ao 0 cap] w fun e w' => e = .returned (.bool true) ∧ Below w.heap.size w w' := by
  obtain ⟨i0, hi, hz0, hz1, hz2⟩ := info_parts info28
  have heq : ∀ w, (binOp .eql 29 (.slice .none 0 0) (.slice .none 0 0)).run Yba.prog w = .ok (.bool true) w := fun w => Lib.run_eql_slice_nil (P := Yba.prog) w 29 9 .none 0 0 0 0 Yba.underlying29
  go_enter Yba.func3, Yba.ntmps3
  go_wp2_with (at_make; refine wpList_make_full _ rfl _ _ 24 rfl w.heap.size 28 i0 _ 2 Yba.underlying24 hi hz0 hz1 .i64 .i64 _ _ 0 rfl rfl rfl rfl (by simp) (by unfold maxLen; omega) (Nat.le_refl _) ?_)
  intro W hown hgrow
  obtain ⟨cur0, hblk0, hcl0⟩ := own_full hown
  have hB0 : Below w.heap.size w W := (Below.refl _ _).grown hgrow (Nat.le_refl _) (fun k hk => by cases hk)
  have hlt : w.heap.size < W.heap.size := by
    rcases Nat.lt_or_ge w.heap.size W.heap.size with h | h
    · exact h
    · rw [Array.getElem?_eq_none h] at hblk0; cases hblk0
  clear hown hgrow hblk0 hcl0
  go_wp2
  refine wp_loop_rounds 1 ?_
  rw [rounds_succ]; go_wp2_with (first | (go_at_call 5; refine (set32 s (fun _ => 0) (fun _ => ByteArray.empty) 0 w.heap.size _ hlt (by omega) (fun i hi => by omega)).mono ?_; rintro e w3 ⟨v, rfl, hown, hnil, hb3⟩))
  obtain rfl := hnil rfl
  clear hown hnil
  go_wp2
  refine wp_loop_rounds 1 ?_
  rw [rounds_succ]; go_wp2
  refine wp_loop_rounds 1 ?_
  rw [rounds_succ]; go_wp2
  go_ret
  exact ⟨rfl, hB0.trans (hb3.mono (Nat.le_of_lt hlt))⟩

end Go.Proofs.Ybulkddfa
