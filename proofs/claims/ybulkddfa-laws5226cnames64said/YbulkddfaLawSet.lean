import Derived.Test.YbulkddfaRows
import Derived.WalkKit
import Derived.WalkSpells
import Derived.WalkLawsBesides
import Derived.LoopN
namespace Go.Proofs.Ybulkddfa
open Go.RowKit

/-- The names of those of the first n flags that share a bit with s, in their order. -/
def sel (k : IntKind) (s : Int) (F : Nat → Int) (N : Nat → ByteArray) : Nat → List ByteArray
  | 0 => []
  | n + 1 => sel k s F N n ++ (if (bits .and k s (F n) != 0) = true then [N n] else [])

section
variable {k : IntKind} {s : Int} {F : Nat → Int} {N : Nat → ByteArray}
theorem sel_yes {n : Nat} (h : (bits .and k s (F n) != 0) = true) : sel k s F N (n + 1) = sel k s F N n ++ [N n] := by simp only [sel, if_pos h]
theorem sel_no {n : Nat} (h : (bits .and k s (F n) != 0) = false) : sel k s F N (n + 1) = sel k s F N n := by
  have : ¬ (bits .and k s (F n) != 0) = true := by rw [h]; decide
  simp only [sel, if_neg this, List.append_nil]
theorem sel_le (n : Nat) : (sel k s F N n).length ≤ n := by
  induction n with
  | zero => exact Nat.le_refl _
  | succ n ih =>
    simp only [sel, List.length_append]
    split <;> simp <;> omega
theorem sel_prefix (n m : Nat) : sel k s F N n <+: sel k s F N (n + m) := by
  induction m with
  | zero => exact List.prefix_refl _
  | succ m ih => exact ih.trans ⟨_, rfl⟩
end

theorem info9 : (Yba.prog.info? 9).map (fun i => (i.zero, i.size, i.bytes)) = some (some (.string ByteArray.empty), 1, 16) := by kernel_rfl

set_option maxHeartbeats 1000000 in
theorem set32 (s : Int) (F : Nat → Int) (N : Nat → ByteArray) (n B : Nat) (w : World) (hB : B < w.heap.size) (hn : n ≤ 1024)
    (hc : ∀ i, i < n → w.cell? ⟨B, i * 2, .none⟩ = some (.int .u32 (F i)) ∧ w.cell? ⟨B, i * 2 + 1, .none⟩ = some (.string (N i))) :
    Calls Yba.prog 5 #[.int .u32 s, .slice (some ⟨B, 0, .none⟩) n n] w fun e w' => ∃ v, e = .returned v ∧ w'.ownsRow w.heap.size 9 1 v (sel .u32 s F N n).length ((sel .u32 s F N n).map .string) ∧
      (sel .u32 s F N n = [] → v = .slice .none 0 0) ∧ Below w.heap.size w w' := by
  obtain ⟨i0, hi, hz0, hz1, hz2⟩ := info_parts info9
  have HC : Hid (∀ i, i < n → w.cell? ⟨B, i * 2, .none⟩ = some (.int .u32 (F i)) ∧ w.cell? ⟨B, i * 2 + 1, .none⟩ = some (.string (N i))) := hc
  clear hc
  go_enter Yba.func5, Yba.ntmps5
  go_wp2
  go_loopw [5, 10] (fun v i wr => ∃ k : Nat, k ≤ n ∧ i = .int .i64 k ∧ wr.ownsRow w.heap.size 9 1 v (sel .u32 s F N k).length ((sel .u32 s F N k).map .string) ∧ (sel .u32 s F N k = [] → v = .slice .none 0 0) ∧ Below w.heap.size w wr) (fun _ i _ => n - (intOf i).toNat)
  case atStart => exact ⟨0, Nat.zero_le _, rfl, World.ownsRow_nil _ _ _ _, fun _ => rfl, Below.refl _ _⟩
  case round =>
    obtain ⟨k, hk, rfl, hown, hnil, hbel⟩ := hrel
    by_cases hlt : k < n
    · obtain ⟨hc0, hc1⟩ := HC.out k hlt
      rw [← hbel.cell (p := ⟨B, k * 2, .none⟩) hB] at hc0
      rw [← hbel.cell (p := ⟨B, k * 2 + 1, .none⟩) hB] at hc1
      have hBr : B < wr.heap.size := Nat.lt_of_lt_of_le hB hbel.size
      have HO : Hid (wr.ownsRow w.heap.size 9 1 u5 (sel .u32 s F N k).length ((sel .u32 s F N k).map .string)) := hown
      clear hown
      by_cases hbit : (bits .and .u32 s (F k) != 0) = true
      · have hl := sel_le (k := .u32) (s := s) (F := F) (N := N) k
        go_wp2_with (at_builtin; refine wpList_append_own _ rfl (.tmp 19) (.tmp 22) 29 rfl w.heap.size 9 i0 (.string ByteArray.empty) 1 16 Yba.underlying29 hi hz0 hz1 hz2 rfl (by decide) u5 (sel .u32 s F N k).length ((sel .u32 s F N k).map .string) rfl ((HO.out.alloc _).alloc _) ⟨wr.heap.size + 1, 0, .none⟩ 1 1 [.string (N k)] rfl rfl ?c1 ?c2 ?c3 ?c4 ?c5 ?_)
        case c1 =>
          intro j u hj
          match j, hj with
          | 0, hj => simp at hj; subst hj; simp [Addr.add, go_sem]
        case c2 => intro u hu; simp at hu; subst hu; rfl
        case c3 => unfold maxLen; omega
        case c4 => omega
        case c5 => have := hbel.size; simp; omega
        intro v' w1 hown' hgrow hv'
        have hb1 : Below w.heap.size w w1 := ((hbel.alloc hbel.size _).alloc (by have := hbel.size; simp; omega) _).grown hgrow (by have := hbel.size; simp; omega) (fun k hk => (HO.out.lt k hk).1)
        have hown2 : w1.ownsRow w.heap.size 9 1 v' (sel .u32 s F N (k + 1)).length ((sel .u32 s F N (k + 1)).map .string) := by
          rw [sel_yes hbit]; simpa using hown'
        have hne : ¬ sel .u32 s F N (k + 1) = [] := by rw [sel_yes hbit]; simp
        clear hown' hgrow hv' HO hc0 hc1
        go_wp2
        go_roundw
        case rel => exact ⟨k + 1, by omega, by go_num, hown2, fun h => absurd h hne, hb1⟩
        case measure => simp [intOf]; omega
      · have hbit' : (bits .and .u32 s (F k) != 0) = false := by simpa using hbit
        clear hbit
        go_wp2
        go_roundw
        case rel => exact ⟨k + 1, by omega, by go_num, by rw [sel_no hbit']; exact HO.out.alloc _, fun h => hnil (by rw [sel_no hbit'] at h; exact h), hbel.alloc hbel.size _⟩
        case measure => simp [intOf]; omega
    · obtain rfl : k = n := by omega
      go_wp2
      go_ret
      exact ⟨_, rfl, hown, hnil, hbel⟩

end Go.Proofs.Ybulkddfa
