import Derived.Test.YbulkddemDoorCards
import Derived.WalkKit
import Derived.WalkSpells
import Derived.WalkLawsBesides
import Derived.LoopN
import Derived.Laws.BitsAllLaws
namespace Go.Proofs.YbulkddemDoor
open Go.RowKit

/-- The sixteen base kinds, as the cells of a new slice. -/
def kindCells : Array Value := #[.int .u16 1, .int .u16 2, .int .u16 3, .int .u16 4, .int .u16 5, .int .u16 6, .int .u16 7, .int .u16 8, .int .u16 9, .int .u16 10, .int .u16 11, .int .u16 12, .int .u16 13, .int .u16 14, .int .u16 15, .int .u16 16]

set_option maxHeartbeats 1600000 in
theorem kinds_all (w : World) (a : Option Addr) (c : Nat) (hk : w.cell? ⟨1, 0, .none⟩ = some (.slice a 16 c)) (hs : 1 < w.heap.size) :
    Calls Ybad.prog 9 #[.int .u64 18446744073709551615] w fun e w' => e = .returned (.slice (some ⟨w.heap.size, 0, .none⟩) 16 16) ∧ w' = w.alloc (.cells kindCells 36) := by
  have hmk : ∀ w, (Instr.makeSlice 33 (.int .i64 16) (.int .i64 16)).run Ybad.prog w = .ok (.slice (some ⟨w.heap.size, 0, .none⟩) 16 16) (w.alloc (.cells #[.int .u16 0, .int .u16 0, .int .u16 0, .int .u16 0, .int .u16 0, .int .u16 0, .int .u16 0, .int .u16 0, .int .u16 0, .int .u16 0, .int .u16 0, .int .u16 0, .int .u16 0, .int .u16 0, .int .u16 0, .int .u16 0] 36)) := fun _ => by kernel_rfl
  go_enter Ybad.func9, Ybad.ntmps9
  go_wp2
  refine wp_loop_rounds 17 ?_
  rw [rounds_succ]; go_wp2
  rw [rounds_succ]; go_wp2
  rw [rounds_succ]; go_wp2
  rw [rounds_succ]; go_wp2
  rw [rounds_succ]; go_wp2
  rw [rounds_succ]; go_wp2
  rw [rounds_succ]; go_wp2
  rw [rounds_succ]; go_wp2
  rw [rounds_succ]; go_wp2
  rw [rounds_succ]; go_wp2
  rw [rounds_succ]; go_wp2
  rw [rounds_succ]; go_wp2
  rw [rounds_succ]; go_wp2
  rw [rounds_succ]; go_wp2
  rw [rounds_succ]; go_wp2
  rw [rounds_succ]; go_wp2
  rw [rounds_succ]; go_wp2
  go_ret
  exact ⟨rfl, rfl⟩

set_option maxHeartbeats 1600000 in
theorem flags_16 (w : World) (b : Nat) (hc : ∀ j v, kindCells[j]? = some v → w.cell? ⟨b, j, .none⟩ = some v) :
    Calls Ybad.prog 8 #[.slice (some ⟨b, 0, .none⟩) 16 16] w fun e w' => e = .returned (.int .u64 131070) ∧ w' = w := by
  have c0 : w.cell? ⟨b, 0, .none⟩ = some (.int .u16 1) := hc 0 _ rfl
  have c1 : w.cell? ⟨b, 1, .none⟩ = some (.int .u16 2) := hc 1 _ rfl
  have c2 : w.cell? ⟨b, 2, .none⟩ = some (.int .u16 3) := hc 2 _ rfl
  have c3 : w.cell? ⟨b, 3, .none⟩ = some (.int .u16 4) := hc 3 _ rfl
  have c4 : w.cell? ⟨b, 4, .none⟩ = some (.int .u16 5) := hc 4 _ rfl
  have c5 : w.cell? ⟨b, 5, .none⟩ = some (.int .u16 6) := hc 5 _ rfl
  have c6 : w.cell? ⟨b, 6, .none⟩ = some (.int .u16 7) := hc 6 _ rfl
  have c7 : w.cell? ⟨b, 7, .none⟩ = some (.int .u16 8) := hc 7 _ rfl
  have c8 : w.cell? ⟨b, 8, .none⟩ = some (.int .u16 9) := hc 8 _ rfl
  have c9 : w.cell? ⟨b, 9, .none⟩ = some (.int .u16 10) := hc 9 _ rfl
  have c10 : w.cell? ⟨b, 10, .none⟩ = some (.int .u16 11) := hc 10 _ rfl
  have c11 : w.cell? ⟨b, 11, .none⟩ = some (.int .u16 12) := hc 11 _ rfl
  have c12 : w.cell? ⟨b, 12, .none⟩ = some (.int .u16 13) := hc 12 _ rfl
  have c13 : w.cell? ⟨b, 13, .none⟩ = some (.int .u16 14) := hc 13 _ rfl
  have c14 : w.cell? ⟨b, 14, .none⟩ = some (.int .u16 15) := hc 14 _ rfl
  have c15 : w.cell? ⟨b, 15, .none⟩ = some (.int .u16 16) := hc 15 _ rfl
  clear hc
  go_enter Ybad.func8, Ybad.ntmps8
  go_wp2
  refine wp_loop_rounds 17 ?_
  rw [rounds_succ]; go_wp2
  rw [rounds_succ]; go_wp2
  rw [rounds_succ]; go_wp2
  rw [rounds_succ]; go_wp2
  rw [rounds_succ]; go_wp2
  rw [rounds_succ]; go_wp2
  rw [rounds_succ]; go_wp2
  rw [rounds_succ]; go_wp2
  rw [rounds_succ]; go_wp2
  rw [rounds_succ]; go_wp2
  rw [rounds_succ]; go_wp2
  rw [rounds_succ]; go_wp2
  rw [rounds_succ]; go_wp2
  rw [rounds_succ]; go_wp2
  rw [rounds_succ]; go_wp2
  rw [rounds_succ]; go_wp2
  rw [rounds_succ]; go_wp2
  go_ret
  exact ⟨rfl, rfl⟩

theorem flags_kinds (w : World) :
    Calls Ybad.prog 8 #[.slice (some ⟨w.heap.size, 0, .none⟩) 16 16] (w.alloc (.cells kindCells 36)) fun e w' => e = .returned (.int .u64 131070) ∧ w' = w.alloc (.cells kindCells 36) :=
  flags_16 _ _ (fun j v h => by simpa [go_sem] using h)

set_option maxHeartbeats 400000 in
theorem without_zero (f : Int) (w : World) :
    Calls Ybad.prog 5 #[.int .u64 f, .int .u64 0] w fun e w' => e = .returned (.int .u64 f) ∧ w' = w := by
  go_enter Ybad.func5, Ybad.ntmps5
  go_wp2
  go_ret
  exact ⟨rfl, rfl⟩

set_option maxHeartbeats 400000 in
theorem without_some (f g : Int) (w : World) (hg : (g == 0) = false) (hf : (f == 18446744073709551615) = false) :
    Calls Ybad.prog 5 #[.int .u64 f, .int .u64 g] w fun e w' => e = .returned (.int .u64 (bits .andNot .u64 f g)) ∧ w' = w := by
  go_enter Ybad.func5, Ybad.ntmps5
  go_wp2
  go_ret
  exact ⟨rfl, rfl⟩

set_option maxHeartbeats 400000 in
theorem without_all (g : Int) (w : World) (a : Option Addr) (c : Nat) (hk : w.cell? ⟨1, 0, .none⟩ = some (.slice a 16 c)) (hs : 1 < w.heap.size) (hg : (g == 0) = false) :
    Calls Ybad.prog 5 #[.int .u64 18446744073709551615, .int .u64 g] w fun e w' => e = .returned (.int .u64 (bits .andNot .u64 131070 g)) ∧ w' = w.alloc (.cells kindCells 36) := by
  go_enter Ybad.func5, Ybad.ntmps5
  go_wp2_with (first
    | (go_at_call 9; refine (kinds_all _ a c hk hs).mono ?_; rintro e w' ⟨rfl, rfl⟩)
    | (go_at_call 8; refine (flags_kinds _).mono ?_; rintro e w' ⟨rfl, rfl⟩))
  go_ret
  exact ⟨rfl, rfl⟩

set_option maxHeartbeats 400000 in
theorem model_zero (f : Int) (w : World) :
    Calls Ybad.prog 6 #[.int .u64 f, .int .u64 0] w fun e w' => e = .returned (.int .u64 f) ∧ w' = w := by
  go_enter Ybad.func6, Ybad.ntmps6
  go_wp2
  go_ret
  exact ⟨rfl, rfl⟩

end Go.Proofs.YbulkddemDoor
