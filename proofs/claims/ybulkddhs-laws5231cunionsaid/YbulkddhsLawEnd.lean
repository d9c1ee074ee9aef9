import Derived.Test.YbulkddhsLawStart
namespace Go.Proofs.Ybulkddhs
open Go.RowKit

theorem and_one {z : Nat} (k : Nat) (hz : z < 18446744073709551616) : (bits .and .u64 ((z : Int) / 2 ^ k) 1 != 0) = z.testBit k := by
  have e1 : (z : Int) / 2 ^ k = ((z / 2 ^ k : Nat) : Int) := by simp
  have e2 : bits .and .u64 ((z / 2 ^ k : Nat) : Int) ((1 : Nat) : Int) = ((z / 2 ^ k &&& 1 : Nat) : Int) := u64_and_nat _ _ (fit_div k hz) (by decide)
  rw [e1]
  show (bits .and .u64 ((z / 2 ^ k : Nat) : Int) ((1 : Nat) : Int) != 0) = _
  rw [e2, Nat.testBit, Nat.shiftRight_eq_div_pow, Nat.and_comm]
  generalize 1 &&& z / 2 ^ k = y
  cases y with
  | zero => rfl
  | succ y =>
    simp
    omega

theorem none_there {h hs : Nat → Bool} {m : Nat} (hz : (scan (fun c => h c || hs c) m).1 = 0) : (scan hs m).1 = 0 ∧ ∀ c, 1 ≤ c → c ≤ m → (h c || hs c) = false := by
  rcases scan_spec (fun c => h c || hs c) m with ⟨_, _, _, q⟩ | ⟨q, _⟩
  · refine ⟨?_, q⟩
    rcases scan_spec hs m with ⟨p, _⟩ | ⟨p, p1, p2, p3, p4, _⟩
    · exact p
    · have := q _ p1 (by omega)
      simp [p4] at this
  · omega

/-- The ring behind or: its numbers are those of the union. -/
theorem ring_nums {nw o' n' lo' top' : Nat} {low' : Option Addr} {u : Nat → Bool} {w : World}
    (hr : (low' = none ∧ n' = 0 ∧ lo' = 1 ∧ top' = 0 ∧ (∀ c, c < 64 * nw → u c = false)) ∨
      ∃ L' WB' W' refs, low' = some ⟨L', 0, .none⟩ ∧ Blk w L' [.slice (some ⟨WB', 0, .none⟩) nw nw, .int .i32 refs] 41 ∧ Blk w WB' (wordCells W') 39 ∧ IsRing nw W' o' u n' lo' top')
    (hz : (scan u (64 * nw - 1)).1 = 0) : n' = 0 ∧ lo' = 1 ∧ top' = 0 := by
  rcases hr with ⟨_, a, b, c, _⟩ | ⟨L', WB', W', refs, _, _, _, r⟩
  · exact ⟨a, b, c⟩
  · have := r.cnt
    have hn : n' = 0 := by omega
    exact ⟨hn, r.none hn⟩

theorem ring_some {nw o' n' lo' top' : Nat} {low' : Option Addr} {u : Nat → Bool} {w : World}
    (hr : (low' = none ∧ n' = 0 ∧ lo' = 1 ∧ top' = 0 ∧ (∀ c, c < 64 * nw → u c = false)) ∨
      ∃ L' WB' W' refs, low' = some ⟨L', 0, .none⟩ ∧ Blk w L' [.slice (some ⟨WB', 0, .none⟩) nw nw, .int .i32 refs] 41 ∧ Blk w WB' (wordCells W') 39 ∧ IsRing nw W' o' u n' lo' top')
    (hz : 0 < (scan u (64 * nw - 1)).1) : ∃ L' WB' W' refs, low' = some ⟨L', 0, .none⟩ ∧ Blk w L' [.slice (some ⟨WB', 0, .none⟩) nw nw, .int .i32 refs] 41 ∧ Blk w WB' (wordCells W') 39 ∧ IsRing nw W' o' u n' lo' top' := by
  rcases hr with ⟨_, _, _, _, hu⟩ | hr
  · rcases scan_spec u (64 * nw - 1) with ⟨q, _⟩ | ⟨_, q1, q2, q3, q4, _⟩
    · omega
    · rw [hu _ (by omega)] at q4; cases q4
  · exact hr

end Go.Proofs.Ybulkddhs
