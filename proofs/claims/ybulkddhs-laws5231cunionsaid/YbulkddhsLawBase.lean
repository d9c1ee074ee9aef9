import Derived.Test.YbulkddhsRows
import Derived.WalkKit
import Derived.WalkSpells
import Derived.WalkLawsBesides
import Derived.LoopN
import Derived.Deep.RegionHeld3
import Derived.Deep.QuietTactic
import Derived.BigQuiet
import Derived.Lib.LazyBuf
import Derived.Laws.BitsAllLaws
namespace Go.Proofs.Ybulkddhs
open Go.RowKit

/-- Block g is a row of cells, known whole, none of them frozen. -/
def Blk (w : World) (g : Nat) (arr : List Value) (t : TypeId) : Prop := w.heap[g]? = some (.cells arr.toArray t (0, 0))

/-- Outside the blocks bs the world w' is as w was. -/
structure KeptBut (bs : List Nat) (w w' : World) : Prop where
  os : w'.os = w.os
  output : w'.output = w.output
  size : w.heap.size ≤ w'.heap.size
  block : ∀ k, k < w.heap.size → k ∉ bs → w'.heap[k]? = w.heap[k]?

section
variable {w w' w'' : World} {g h k : Nat} {arr : List Value} {t : TypeId} {bs : List Nat}

theorem Blk.cell (hb : Blk w g arr t) (k : Nat) : w.cell? ⟨g, k, .none⟩ = arr[k]? := by
  rw [cell_of_row w g k arr.toArray t (0, 0) hb]; simp
theorem Blk.frozen (hb : Blk w g arr t) (k : Nat) : w.frozen? ⟨g, k, .none⟩ = false := by
  unfold Blk at hb
  simp [World.frozen?, hb]
theorem Blk.lt (hb : Blk w g arr t) : g < w.heap.size := by
  unfold Blk at hb
  rcases Nat.lt_or_ge g w.heap.size with h | h
  · exact h
  · rw [Array.getElem?_eq_none h] at hb; cases hb
theorem Blk.set (hb : Blk w g arr t) (k : Nat) (v : Value) : Blk (w.setCell ⟨g, k, .none⟩ v) g (arr.set k v) t := by
  unfold Blk at *
  simp [World.setCell, Array.getElem?_modify, hb]
theorem Blk.other (hb : Blk w g arr t) (hne : g ≠ h) (k : Nat) (v : Value) : Blk (w.setCell ⟨h, k, .none⟩ v) g arr t := by
  unfold Blk at *
  rw [Below.heap_setCell _ _ _ _ (by simpa using hne)]
  exact hb
theorem Blk.drewN (hb : Blk w g arr t) (n : Nat) : Blk (w.drewN n) g arr t := hb
theorem Blk.drew (hb : Blk w g arr t) : Blk w.drew g arr t := hb
theorem Blk.alloc (hb : Blk w g arr t) (o : Obj) : Blk (w.alloc o) g arr t := by
  have := hb.lt
  unfold Blk at *
  rw [Below.heap_alloc w o g this]
  exact hb
theorem Blk.new (w : World) (arr : List Value) (t : TypeId) : Blk (w.alloc (.cells arr.toArray t)) w.heap.size arr t := heap_alloc_new w _
theorem Blk.kept (hb : Blk w g arr t) (hk : KeptBut bs w w') (hn : g ∉ bs) : Blk w' g arr t := by
  have := hb.lt
  unfold Blk at *
  rw [hk.block g this hn]
  exact hb
theorem Blk.uniq {arr' : List Value} {t' : TypeId} (h1 : Blk w g arr t) (h2 : Blk w g arr' t') : arr = arr' ∧ t = t' := by
  unfold Blk at *
  rw [h1] at h2
  simp at h2
  exact h2

theorem KeptBut.refl (bs : List Nat) (w : World) : KeptBut bs w w := ⟨rfl, rfl, Nat.le_refl _, fun _ _ _ => rfl⟩
theorem KeptBut.trans (h1 : KeptBut bs w w') (h2 : KeptBut bs w' w'') : KeptBut bs w w'' :=
  ⟨h2.os.trans h1.os, h2.output.trans h1.output, Nat.le_trans h1.size h2.size, fun k hk hn => (h2.block k (Nat.lt_of_lt_of_le hk h1.size) hn).trans (h1.block k hk hn)⟩
theorem KeptBut.mono {bs' : List Nat} (h1 : KeptBut bs w w') (hs : ∀ k, k < w.heap.size → k ∈ bs → k ∈ bs') : KeptBut bs' w w' :=
  ⟨h1.os, h1.output, h1.size, fun k hk hn => h1.block k hk (fun h => hn (hs k hk h))⟩
theorem KeptBut.drewN (h1 : KeptBut bs w w') (n : Nat) : KeptBut bs w (w'.drewN n) := ⟨h1.os, h1.output, h1.size, h1.block⟩
theorem KeptBut.drew (h1 : KeptBut bs w w') : KeptBut bs w w'.drew := ⟨h1.os, h1.output, h1.size, h1.block⟩
theorem KeptBut.alloc (h1 : KeptBut bs w w') (o : Obj) : KeptBut bs w (w'.alloc o) :=
  ⟨h1.os, h1.output, by have := h1.size; simp; omega, fun k hk hn => (Below.heap_alloc w' o k (Nat.lt_of_lt_of_le hk h1.size)).trans (h1.block k hk hn)⟩
theorem KeptBut.setCell (h1 : KeptBut bs w w') (hg : w.heap.size ≤ g ∨ g ∈ bs) (k : Nat) (v : Value) : KeptBut bs w (w'.setCell ⟨g, k, .none⟩ v) :=
  ⟨h1.os, h1.output, by have := h1.size; simp [World.setCell]; omega, fun j hj hn => (Below.heap_setCell _ _ _ _ (by
    intro e
    have e' : j = g := e
    subst e'
    rcases hg with h | h
    · omega
    · exact hn h)).trans (h1.block j hj hn)⟩
theorem KeptBut.below {B : Nat} (h1 : Below B w w') (hB : w.heap.size ≤ B) : KeptBut [] w w' := ⟨h1.os, h1.output, h1.size, fun k hk _ => h1.block k (Nat.lt_of_lt_of_le hk hB)⟩
end

/-- Words as cells; booleans as cells. -/
def wordCells (W : List Nat) : List Value := W.map fun x : Nat => Value.int .u64 (x : Int)
def boolCells (h : Nat → Bool) (n : Nat) : List Value := (List.range n).map fun c => .bool (h c)

theorem wordCells_length (W : List Nat) : (wordCells W).length = W.length := by simp [wordCells]
theorem wordCells_get (W : List Nat) (i : Nat) (hi : i < W.length) : (wordCells W)[i]? = some (.int .u64 ((W.getD i 0 : Nat) : Int)) := by
  simp [wordCells, List.getD, List.getElem?_eq_getElem hi]
theorem wordCells_set (W : List Nat) (i x : Nat) : (wordCells W).set i (.int .u64 (x : Int)) = wordCells (W.set i x) := by
  simp [wordCells, List.map_set]
theorem boolCells_get (h : Nat → Bool) (n c : Nat) (hc : c < n) : (boolCells h n)[c]? = some (.bool (h c)) := by
  simp [boolCells, hc]

/-- zzs5231ccanon. -/
def canon (h : Int) : Int := if h < 0 then -1 else h
set_option maxHeartbeats 400000 in
theorem canon_any (h : Int) (w : World) : Calls Yba.prog 6 #[.int .i32 h] w fun e w' => e = .returned (.int .i32 (canon h)) ∧ w' = w := by
  unfold canon
  go_enter Yba.func6, Yba.ntmps6
  by_cases hh : h < 0
  · rw [if_pos hh]
    go_wp2
    go_ret
    exact ⟨rfl, rfl⟩
  · rw [if_neg hh]
    go_wp2
    go_ret
    exact ⟨rfl, rfl⟩

/-- (*ring).words: the first word, and how many. -/
def wFirst (nw off lo : Nat) : Nat := if nw ≤ (off + lo) / 64 then (off + lo) / 64 - nw else (off + lo) / 64
def wCount (nw off lo top : Nat) : Nat := min ((off + top) / 64 - (off + lo) / 64 + 1) nw

theorem ret_two {a b a' b' : Int} (h1 : a = a') (h2 : b = b') : Ending.returned (.tuple #[.int .i64 a, .int .i64 b]) = .returned (.tuple #[.int .i64 a', .int .i64 b']) := by rw [h1, h2]

set_option maxHeartbeats 1000000 in
theorem words_any (w : World) (R L Wb nw off lo top : Nat) (hnw : nw ≤ 3) (hoff : off < 64 * nw) (hlo : lo ≤ top) (htop : top < 64 * nw)
    (h0 : w.cell? ⟨R, 0, .none⟩ = some (.pointer (some ⟨L, 0, .none⟩))) (h3 : w.cell? ⟨R, 3, .none⟩ = some (.int .i32 lo)) (h4 : w.cell? ⟨R, 4, .none⟩ = some (.int .i32 top))
    (hL : w.cell? ⟨L, 0, .none⟩ = some (.slice (some ⟨Wb, 0, .none⟩) nw nw)) :
    Calls Yba.prog 11 #[.pointer (some ⟨R, 0, .none⟩), .int .i32 off] w fun e w' => e = .returned (.tuple #[.int .i64 (wFirst nw off lo : Nat), .int .i64 (wCount nw off lo top : Nat)]) ∧ ∃ n, w' = w.drewN n := by
  go_enter Yba.func11, Yba.ntmps11
  by_cases hw : nw ≤ (off + lo) / 64
  · go_wp2
    go_quiet (fail)
    go_wp2
    go_ret2
    exact ⟨ret_two (by unfold wFirst; rw [if_pos hw]; omega) (by unfold wCount; omega), nq, rfl⟩
  · by_cases hc : (off + top) / 64 - (off + lo) / 64 + 1 ≤ nw
    · go_wp2
      go_quiet (fail)
      go_wp2
      go_ret2
      exact ⟨ret_two (by unfold wFirst; rw [if_neg hw]; omega) (by unfold wCount; omega), nq, rfl⟩
    · go_wp2
      go_quiet (fail)
      go_wp2
      go_ret2
      exact ⟨ret_two (by unfold wFirst; rw [if_neg hw]; omega) (by unfold wCount; omega), nq, rfl⟩

end Go.Proofs.Ybulkddhs
