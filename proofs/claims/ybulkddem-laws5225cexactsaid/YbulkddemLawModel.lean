import Derived.Test.YbulkddemLawAppendTo
namespace Go.Proofs.Ybulkddem
open Go.RowKit

/-- The zero bytes behind the data. -/
def padOf (n : Nat) : Nat := up4 n - n
theorem padOf_le (n : Nat) : padOf n ≤ 3 ∧ n + padOf n = up4 n ∧ (n + padOf n) % 4 = 0 := by unfold padOf up4; omega
theorem padOf_more (n k : Nat) (h : k < padOf n) : (n + k) % 4 ≠ 0 := by unfold padOf up4 at h; omega

theorem own_block {W : World} {base g C : Nat} (h : W.ownsRow base 5 1 (.slice (some ⟨g, 0, .none⟩) 0 C) 0 []) : ∃ cur : List Value, W.heap[g]? = some (.cells cur.toArray 5 (0, 0)) ∧ cur.length = C := by
  rcases h.2 with ⟨e, _⟩ | ⟨g', cap, cur, e, _, hg, _, _, hs, _⟩
  · cases e
  · simp at e
    obtain ⟨rfl, rfl⟩ := e
    exact ⟨cur.toList, by simpa using hg, by simpa using hs⟩

/-- A new block of four bytes as a source. -/
theorem src4z (w : World) (z0 z1 z2 z3 : Int) (xs : List Int) (hx : xs = [z0, z1, z2, z3]) : Src Yba.prog 1 22 (.slice (some ⟨w.heap.size, 0, .none⟩) 4 4) 4 (cellsOf xs)
    (w.alloc (.cells #[.int .u8 z0, .int .u8 z1, .int .u8 z2, .int .u8 z3] 5)) := by
  subst hx
  refine Src.ofSlice _ Yba.underlying22 _ _ 4 _ (by simp [cellsOf]) (fun j u hj => ?_) (cellsOf_one _)
  rw [Addr.add_lit, Nat.zero_add]
  have e := World.cell?_alloc_new w #[.int .u8 z0, .int .u8 z1, .int .u8 z2, .int .u8 z3] 5 j
  rw [e]
  simpa [cellsOf] using hj
/-- A new block of one zero byte as a source. -/
theorem src1z (w : World) : Src Yba.prog 1 22 (.slice (some ⟨w.heap.size, 0, .none⟩) 1 1) 1 (cellsOf [0]) (w.alloc (.cells #[.int .u8 0] 5)) := by
  refine Src.ofSlice _ Yba.underlying22 _ _ 1 _ (by simp [cellsOf]) (fun j u hj => ?_) (cellsOf_one _)
  rw [Addr.add_lit, Nat.zero_add]
  have e := World.cell?_alloc_new w #[.int .u8 0] 5 j
  rw [e]
  simpa [cellsOf] using hj
theorem be4_eq (n k : Nat) (hk : k = padOf n) (h : n ≤ 4096) : be4 (8 + up4 n) = [(8 + (n : Int) + (k : Int)) / 16777216, (8 + (n : Int) + (k : Int)) / 65536, (8 + (n : Int) + (k : Int)) / 256, (8 + (n : Int) + (k : Int)) % 256] := by
  have := padOf_le n
  have e : ((8 + up4 n : Nat) : Int) = 8 + (n : Int) + (k : Int) := by omega
  unfold be4
  rw [e]
  have : (8 + (n : Int) + (k : Int)) / 256 % 256 = (8 + (n : Int) + (k : Int)) / 256 := by omega
  rw [this]

theorem upon_ks {W w : World} {ao : Option Addr} {b off len cap m m' r : Nat} {olds ks ks' : List Value} {v : Value} (h : Upon W 5 1 ao b off len cap olds w v m ks r) (e : ks = ks') (em : m = m') : Upon W 5 1 ao b off len cap olds w v m' ks' r := by
  subst e em; exact h
theorem shape0 {W w : World} {ao : Option Addr} {b off cap m r : Nat} {olds ks : List Value} {v : Value} (h : Upon W 5 1 ao b off 0 cap olds w v m ks r) : ∃ a' c', v = .slice a' m c' := by
  obtain ⟨a', c', e⟩ := h.shape
  exact ⟨a', c', by rw [e, Nat.zero_add]⟩
/-- What has been laid before the zero bytes. -/
def headNums (ps : List Int) (typ : ByteArray) (data : List Int) : List Int := ps ++ strNums typ ++ be4 (8 + up4 data.length) ++ data
theorem headNums_pad (ps : List Int) (typ : ByteArray) (data : List Int) (k : Nat) (hk : k = padOf data.length) : headNums ps typ data ++ List.replicate k 0 = ps ++ blockNums typ data := by
  subst hk
  simp [headNums, blockNums, padOf, List.append_assoc]
def relLoop (w W : World) (C k M : Nat) (N : List Int) (v i : Value) (wr : World) : Prop :=
  ∃ j r, j ≤ k ∧ i = .int .i64 (j : Nat) ∧ Upon W 5 1 (some ⟨w.heap.size, 0, .none⟩) w.heap.size 0 0 C [] wr v (M + j) (cellsOf (N ++ List.replicate j 0)) r

set_option maxHeartbeats 1000000 in
theorem model_any {w : World} (pa : Option Addr) (pl pc : Nat) (ps : List Int) (typ : ByteArray) (da : Option Addr) (dl dc : Nat) (data : List Int)
    (hp : Reads w (.slice pa pl pc) ps) (hd : Reads w (.slice da dl dc) data)
    (h1 : typ.size ≤ 4096) (h2 : dl ≤ 4096) (h3 : pl ≤ 4096) :
    Calls Yba.prog 5 #[.slice pa pl pc, .string typ, .slice da dl dc] w fun e w' => ∃ v', e = .returned v' ∧ Reads w' v' (ps ++ blockNums typ data) ∧ Under w.heap.size w w' := by
  obtain ⟨i0, hi, hz0, hz1, hz2⟩ := info_parts info5
  obtain rfl : dl = data.length := by obtain ⟨_, _, e, _⟩ := hd; simp at e; exact e.2.1
  obtain rfl : pl = ps.length := by obtain ⟨_, _, e, _⟩ := hp; simp at e; exact e.2.1
  obtain ⟨g1, g2, g3⟩ := padOf_le data.length
  have G2 : Hid (data.length + padOf data.length = up4 data.length) := g2
  have G3 : Hid ((data.length + padOf data.length) % 4 = 0) := g3
  clear g2 g3
  go_enter Yba.func5, Yba.ntmps5
  go_wp2
  go_loop [7] (fun t => ∃ k : Nat, k ≤ padOf data.length ∧ t = .int .i64 k) (fun t => padOf data.length - (intOf t).toNat)
  case atStart => exact ⟨0, Nat.zero_le _, rfl⟩
  case round =>
    obtain ⟨k, hk, rfl⟩ := hrel
    by_cases hlt : k < padOf data.length
    · have hne := padOf_more data.length k hlt
      have hb : ((((data.length : Nat) : Int) + (k : Int)) % 4 != 0) = true := by rw [bne_iff_ne]; omega
      go_wp2
      exact ⟨⟨k + 1, by omega, rfl⟩, by simp [intOf]; omega⟩
    · have hk0 : Hid (k = padOf data.length) := by show _ = _; omega
      have hb : ((((data.length : Nat) : Int) + (k : Int)) % 4 != 0) = false := by
        have a1 := hk0.out
        have a2 := G3.out
        rw [← a1] at a2
        have : (((data.length : Nat) : Int) + (k : Int)) % 4 = 0 := by omega
        rw [this]; rfl
      have hk3 : k ≤ 3 := by omega
      clear hk hlt g1
      have hbc : i0.bytes * (ps.length + typ.size + (8 + data.length + k)) ≤ 281474976710656 := by rw [hz2]; omega
      go_wp2_with (at_make; refine wpList_make_own _ rfl _ _ 22 rfl w.heap.size 5 i0 (.int .u8 0) 1 Yba.underlying22 hi hz0 hz1 .i64 .i64 _ (ps.length + typ.size + (8 + data.length + k)) rfl rfl (by omega) hbc (by unfold maxLen; omega) (Nat.le_refl _) ?_)
      intro W hown hgrow
      obtain ⟨cur, hblk, hcl⟩ := own_block hown
      have hB : Under w.heap.size w W := Under.of ((Below.refl _ _).grown hgrow (Nat.le_refl _) (fun k hk => by cases hk))
      have hc := came_block (n := 0) hblk hcl (Nat.zero_le _)
      simp only [List.take_zero] at hc
      have hpW := hp.later hB
      clear hblk hown
      go_wp2_with (at_builtin; refine wpList_append_upon _ rfl (.tmp 32) (.tmp 33) 22 22 rfl hc i0 (.int .u8 0) 1 Yba.underlying22 hi hz0 hz1 hz2 rfl rfl (Upon.start hc) _ ps.length (cellsOf ps) rfl hpW.src ?b1 ?b2 ?_)
      case b1 => unfold maxLen; omega
      case b2 => omega
      intro v1 w1 hu1
      obtain ⟨a1, c1, hv1⟩ := shape0 hu1
      subst hv1
      go_wp2_with (at_builtin; go_must (refine wpList_append_upon _ rfl (.tmp 35) (.tmp 36) 22 9 rfl hc i0 (.int .u8 0) 1 Yba.underlying22 hi hz0 hz1 hz2 rfl rfl hu1 _ typ.size (byteCells typ) rfl (Src.ofString _ Yba.underlying9 typ) ?b3 ?b4 ?_))
      case b3 => unfold maxLen; omega
      case b4 => omega
      intro v2 w2 hu2
      clear hu1
      obtain ⟨a2, c2, hv2⟩ := shape0 hu2
      subst hv2
      have hsrc := src4z w2 _ _ _ _ _ (be4_eq data.length k hk0.out h2)
      go_wp2_with (at_builtin; refine wpList_append_upon _ rfl (.tmp 38) (.tmp 50) 22 22 rfl hc i0 (.int .u8 0) 1 Yba.underlying22 hi hz0 hz1 hz2 rfl rfl (hu2.alloc hc _) _ 4 (cellsOf (be4 (8 + up4 data.length))) rfl hsrc ?b5 ?b6 ?_)
      case b5 => unfold maxLen; omega
      case b6 => omega
      intro v3 w3 hu3
      clear hu2 hsrc
      obtain ⟨a3, c3, hv3⟩ := shape0 hu3
      subst hv3
      have hdr := hd.later (hB.upon hB.size (Nat.le_refl _) hu3)
      go_wp2_with (at_builtin; refine wpList_append_upon _ rfl (.tmp 52) (.tmp 53) 22 22 rfl hc i0 (.int .u8 0) 1 Yba.underlying22 hi hz0 hz1 hz2 rfl rfl hu3 _ data.length (cellsOf data) rfl hdr.src ?b7 ?b8 ?_)
      case b7 => unfold maxLen; omega
      case b8 => omega
      intro v4 w4 hu4
      clear hu3 hdr
      obtain ⟨a4, c4, hv4⟩ := shape0 hu4
      subst hv4
      have hu4' := upon_ks hu4 (ks' := cellsOf (headNums ps typ data)) (by simp [headNums, cellsOf_append, byteCells_nums, List.append_assoc]) rfl
      clear hu4 hpW hp hd
      go_wp2
      go_loopw [9, 10] (fun v i wr => relLoop w W (ps.length + typ.size + (8 + data.length + k)) k (ps.length + typ.size + 4 + data.length) (headNums ps typ data) v i wr) (fun _ i _ => k - (intOf i).toNat)
      case atStart => exact ⟨0, _, Nat.zero_le _, rfl, by simpa using hu4'⟩
      case round =>
        obtain ⟨j, r, hj, rfl, hu⟩ := hrel
        obtain ⟨a5, c5, hv5⟩ := shape0 hu
        subst hv5
        have hs1 := src1z wr
        by_cases hjl : j < k
        · go_wp2_with (at_builtin; refine wpList_append_upon _ rfl (.tmp 60) (.tmp 61) 22 22 rfl hc i0 (.int .u8 0) 1 Yba.underlying22 hi hz0 hz1 hz2 rfl rfl (hu.alloc hc _) _ 1 (cellsOf [0]) rfl hs1 ?b9 ?b10 ?_)
          case b9 => unfold maxLen; omega
          case b10 => omega
          intro v6 w6 hu6
          have hu7 := upon_ks hu6 (ks' := cellsOf (headNums ps typ data ++ List.replicate (j + 1) 0)) (m' := ps.length + typ.size + 4 + data.length + (j + 1)) (by simp [cellsOf_append, List.replicate_succ', List.append_assoc]) (by omega)
          clear hu6 hu hs1
          obtain ⟨a6, c6, hv6⟩ := shape0 hu7
          subst hv6
          go_wp2
          go_roundw
          case rel => exact ⟨j + 1, _, by omega, by go_num, hu7⟩
          case measure => simp [intOf]; omega
        · obtain rfl : j = k := by omega
          have hrd := upon_reads (os := []) hc (by unfold maxLen; omega) hu
          have hun := hB.upon hB.size (Nat.le_refl _) hu
          rw [List.nil_append, headNums_pad ps typ data j hk0.out] at hrd
          clear hu hs1
          go_wp2
          go_ret
          exact ⟨_, rfl, hrd, hun⟩

end Go.Proofs.Ybulkddem
