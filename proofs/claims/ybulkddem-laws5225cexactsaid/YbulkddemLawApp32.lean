import Derived.Test.YbulkddemLawBase
namespace Go.Proofs.Ybulkddem
open Go.RowKit

/-- Four bytes, the greatest first, of a small number. -/
def be4 (s : Nat) : List Int := [(s : Int) / 16777216, (s : Int) / 65536, (s : Int) / 256 % 256, (s : Int) % 256]

/-- A new block of four bytes as a source. -/
theorem src4 (w : World) (s : Nat) : Src Yba.prog 1 22 (.slice (some ⟨w.heap.size, 0, .none⟩) 4 4) 4 (cellsOf (be4 s))
    (w.alloc (.cells #[.int .u8 ((s : Int) / 16777216), .int .u8 ((s : Int) / 65536), .int .u8 ((s : Int) / 256 % 256), .int .u8 ((s : Int) % 256)] 5)) := by
  refine Src.ofSlice _ Yba.underlying22 _ _ 4 _ (by simp [cellsOf, be4]) (fun j u hj => ?_) (cellsOf_one _)
  rw [Addr.add_lit, Nat.zero_add]
  have e := World.cell?_alloc_new w #[.int .u8 ((s : Int) / 16777216), .int .u8 ((s : Int) / 65536), .int .u8 ((s : Int) / 256 % 256), .int .u8 ((s : Int) % 256)] 5 j
  rw [e]
  simpa [cellsOf, be4] using hj

set_option maxHeartbeats 400000 in
theorem app32 {W : World} {ao : Option Addr} {b off len cap : Nat} {olds : List Value} (hc : Came W 1 ao b off len cap olds)
    {w : World} {v : Value} {m : Nat} {ks : List Value} {r : Nat} (h : Upon W 5 1 ao b off len cap olds w v m ks r) (s : Nat) (hs : s < 100000) (hb : len + m + 4 ≤ 1000000) :
    Calls Yba.prog 7 #[.agg #[], v, .int .u32 s] w fun e w' => ∃ v', e = .returned v' ∧ Upon W 5 1 ao b off len cap olds w' v' (m + 4) (ks ++ cellsOf (be4 s)) (Upon.next len cap 1 m r 4) := by
  obtain ⟨i0, hi, hz0, hz1, hz2⟩ := info_parts info5
  obtain ⟨a', c', hv⟩ := h.shape
  subst hv
  have hsrc := src4 (w.alloc (.cells #[] 30)) s
  have hsz : (w.alloc (.cells #[] 30)).heap.size = w.heap.size + 1 := by simp
  rw [hsz] at hsrc
  go_enter Yba.func7, Yba.ntmps7
  go_wp2_with (at_builtin; refine wpList_append_upon _ rfl (.tmp 7) (.tmp 19) 22 22 rfl hc i0 (.int .u8 0) 1 Yba.underlying22 hi hz0 hz1 hz2 rfl rfl ((h.alloc hc _).alloc hc _) _ 4 (cellsOf (be4 s)) rfl hsrc ?b1 ?b2 ?_)
  case b1 => unfold maxLen; omega
  case b2 => omega
  intro v' w' hu
  obtain ⟨a2, c2, hv2⟩ := hu.shape
  subst hv2
  go_wp2
  go_ret
  exact ⟨_, rfl, hu⟩

end Go.Proofs.Ybulkddem
