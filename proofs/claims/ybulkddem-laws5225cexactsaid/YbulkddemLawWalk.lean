import Derived.Test.YbulkddemLawModel
import Derived.Laws.CopyOwn
namespace Go.Proofs.Ybulkddem
open Go.RowKit

/-- WHAT THE WALK IS TOLD OF A SLICE OF INTEGERS THAT CAME IN (the shell's own words). -/
def IsRow (k : IntKind) (w : World) (a : Option Addr) (len cap : Nat) (zs : List Int) : Prop :=
  (a = .none ∧ len = 0 ∧ cap = 0 ∧ zs = []) ∨
  ∃ x, a = some x ∧ len ≤ cap ∧ cap ≤ maxLen ∧ zs.length = cap ∧ (∀ i, i < zs.length → w.cell? (x.add i) = some (.int k (zs.getD i 0))) ∧ ∀ n ∈ zs, (Lit.int k n).wf = true

theorem IsRow.reads {w : World} {a : Option Addr} {len cap : Nat} {zs : List Int} (h : IsRow .u8 w a len cap zs) : Reads w (.slice a len cap) (zs.take len) ∧ (zs.take len).length = len := by
  rcases h with ⟨rfl, rfl, rfl, rfl⟩ | ⟨x, rfl, hl, hm, hz, hc, hw⟩
  · exact ⟨⟨.none, 0, rfl, fun _ => rfl, fun j u hj => by simp [cellsOf] at hj⟩, rfl⟩
  · have e : (zs.take len).length = len := by simp; omega
    refine ⟨⟨some x, cap, by rw [e], (fun h => by cases h), fun j u hj => ⟨x, rfl, ?_⟩⟩, e⟩
    have hjl : j < len := by have := (List.getElem?_eq_some_iff.1 hj).1; rw [cellsOf_length] at this; omega
    rw [hc j (by omega)]
    simp [cellsOf, hjl] at hj
    obtain ⟨y, hy, rfl⟩ := hj
    simp [List.getD, hy]

/-- A row of the call's own, known whole: its first n bytes. -/
theorem row_reads {w : World} {g n cap : Nat} {xs : List Int} {cur : List Value} (hg : w.heap[g]? = some (.cells cur.toArray 5 (0, 0))) (hx : cur.take n = cellsOf xs) (hn : xs.length = n) : Reads w (.slice (some ⟨g, 0, .none⟩) n cap) xs := by
  refine ⟨_, cap, by rw [hn], (fun h => by cases h), fun j u hj => ⟨_, rfl, ?_⟩⟩
  rw [Addr.add_lit, Nat.zero_add, cell_of_row w g j cur.toArray 5 (0, 0) hg]
  have hjl : j < n := by have := (List.getElem?_eq_some_iff.1 hj).1; rw [cellsOf_length] at this; omega
  rw [← hx, List.getElem?_take, if_pos hjl] at hj
  simpa using hj

theorem own_full {W : World} {base g C : Nat} {xs : List Value} (h : W.ownsRow base 5 1 (.slice (some ⟨g, 0, .none⟩) C C) C xs) : ∃ cur : List Value, W.heap[g]? = some (.cells cur.toArray 5 (0, 0)) ∧ cur.length = C := by
  rcases h.2 with ⟨e, _⟩ | ⟨g', cap, cur, e, _, hg, _, _, hs, _⟩
  · cases e
  · simp at e
    obtain ⟨rfl, rfl⟩ := e
    exact ⟨cur.toList, by simpa using hg, by simpa using hs⟩

set_option maxHeartbeats 400000 in
theorem long_0 (a0 : Option Addr) (len0 cap0 : Nat) (a1 : ByteArray) (a2 : Option Addr) (len2 cap2 : Nat) (a3 : Int) (w : World) (h : 4096 < len0) :
    Calls Yba.prog 3 #[.slice a0 len0 cap0, .string a1, .slice a2 len2 cap2, .int .u8 a3] w fun e w' => e = .returned (.bool true) ∧ Under w.heap.size w w' := by
  have h' : decide ((4096 : Int) < len0) = true := by simp; omega
  go_enter Yba.func3, Yba.ntmps3
  go_wp2
  go_ret
  exact ⟨rfl, Under.refl _ _⟩
set_option maxHeartbeats 400000 in
theorem long_1 (a0 : Option Addr) (len0 cap0 : Nat) (a1 : ByteArray) (a2 : Option Addr) (len2 cap2 : Nat) (a3 : Int) (w : World) (h0 : len0 ≤ 4096) (h : 4096 < a1.size) :
    Calls Yba.prog 3 #[.slice a0 len0 cap0, .string a1, .slice a2 len2 cap2, .int .u8 a3] w fun e w' => e = .returned (.bool true) ∧ Under w.heap.size w w' := by
  have h0' : decide ((4096 : Int) < len0) = false := by simp; omega
  have h' : decide ((4096 : Int) < a1.size) = true := by simp; omega
  go_enter Yba.func3, Yba.ntmps3
  go_wp2
  go_ret
  exact ⟨rfl, Under.refl _ _⟩
set_option maxHeartbeats 400000 in
theorem long_2 (a0 : Option Addr) (len0 cap0 : Nat) (a1 : ByteArray) (a2 : Option Addr) (len2 cap2 : Nat) (a3 : Int) (w : World) (h0 : len0 ≤ 4096) (h1 : a1.size ≤ 4096) (h : 4096 < len2) :
    Calls Yba.prog 3 #[.slice a0 len0 cap0, .string a1, .slice a2 len2 cap2, .int .u8 a3] w fun e w' => e = .returned (.bool true) ∧ Under w.heap.size w w' := by
  have h0' : decide ((4096 : Int) < len0) = false := by simp; omega
  have h1' : decide ((4096 : Int) < a1.size) = false := by simp; omega
  have h' : decide ((4096 : Int) < len2) = true := by simp; omega
  go_enter Yba.func3, Yba.ntmps3
  go_wp2
  go_ret
  exact ⟨rfl, Under.refl _ _⟩

theorem row_set {w : World} {g k : Nat} {cur : List Value} (v : Value) (hg : w.heap[g]? = some (.cells cur.toArray 5 (0, 0))) : (w.setCell ⟨g, k, .none⟩ v).heap[g]? = some (.cells (cur.set k v).toArray 5 (0, 0)) := by
  simp [World.setCell, Array.getElem?_modify, hg]

theorem take_splice (cur : List Value) (ps : List Int) (n : Nat) (h : ps.length = n) : (splice cur 0 (cellsOf ps)).take n = cellsOf ps := by
  subst h
  simp [splice, cellsOf]

theorem size5 : (Yba.prog.info? 5).map (·.size) = some 1 := by kernel_rfl

/-- copy(q, p), q a row of the call's own. -/
theorem copy_run {w wr : World} {a0 : Option Addr} {cap0 S : Nat} {ps : List Int} {cur : List Value} (hp : Reads wr (.slice a0 ps.length cap0) ps) (hg : wr.heap[w.heap.size]? = some (.cells cur.toArray 5 (0, 0))) (hcl : cur.length = ps.length + S)
    (hB : Below w.heap.size w wr) :
    ∃ w2, (Builtin.copy_ #[22, 22] 3 #[.slice (some ⟨w.heap.size, 0, .none⟩) (ps.length + S) (ps.length + S), .slice a0 ps.length cap0]).run Yba.prog wr = .ok (goInt ps.length) w2 ∧
      w2.heap[w.heap.size]? = some (.cells (splice cur 0 (cellsOf ps)).toArray 5 (0, 0)) ∧ Below w.heap.size w w2 := by
  have hlen : (cellsOf ps).length = Nat.min ps.length (ps.length + S) := by rw [cellsOf_length]; exact (Nat.min_eq_left (by omega)).symm
  have hfit : 0 + (cellsOf ps).length ≤ cur.length := by rw [cellsOf_length]; omega
  by_cases h0 : ps.length = 0
  · have e : ps = [] := List.eq_nil_of_length_eq_zero h0
    have hrun := run_copy_none (P := Yba.prog) wr 22 22 3 5 (some ⟨w.heap.size, 0, .none⟩) a0 (ps.length + S) (ps.length + S) ps.length cap0 Yba.underlying22 size5 (by rw [h0]; exact Nat.min_eq_left (by omega))
    refine ⟨wr, by rw [hrun, h0]; rfl, ?_, hB⟩
    subst e
    simpa [splice, cellsOf] using hg
  · obtain ⟨a, c, e, hn, hx⟩ := hp
    simp at e
    obtain ⟨rfl, _⟩ := e
    obtain ⟨x, rfl, _⟩ := hx 0 _ (List.getElem?_eq_getElem (by rw [cellsOf_length]; omega))
    have hsrc : ∀ j v, (cellsOf ps)[j]? = some v → wr.cell? (x.add j) = some v := fun j v hj => by
      obtain ⟨y, e, hc⟩ := hx j v hj
      cases e
      exact hc
    have hrun := run_copy_row (P := Yba.prog) wr 22 22 3 5 w.heap.size 0 (ps.length + S) (ps.length + S) x ps.length cap0 cur.toArray 5 (cellsOf ps) Yba.underlying22 size5 hg hlen hsrc (by simpa using hfit) (cellsOf_one ps)
    rw [cellsOf_length] at hrun
    refine ⟨_, hrun, ?_, below_setRow hB (Nat.le_refl _) _⟩
    rw [setRow_heap wr w.heap.size _ _ 5 _ hg]
    simp [splice, cellsOf_length]

/-- What was there before is read as before. -/
theorem olds_reads {W w : World} {b n cap m r : Nat} {ps : List Int} {ks : List Value} {v : Value} (hc : Came W 1 (some ⟨b, 0, .none⟩) b 0 n cap (cellsOf ps))
    (hu : Upon W 5 1 (some ⟨b, 0, .none⟩) b 0 n cap (cellsOf ps) w v m ks r) (hn : ps.length = n) : Reads w (.slice (some ⟨b, 0, .none⟩) n cap) ps := by
  refine ⟨_, cap, by rw [hn], (fun h => by cases h), fun j u hj => ⟨_, rfl, ?_⟩⟩
  have hjl : j < n := by have := (List.getElem?_eq_some_iff.1 hj).1; rw [cellsOf_length] at this; omega
  have hle := hc.le
  rw [Addr.add_lit, hu.old (hc.lt (by omega)) (fun j' _ ⟨_, e⟩ => by omega)]
  exact hc.olds j u hj

set_option maxHeartbeats 1000000 in
theorem short_any (a0 : Option Addr) (cap0 : Nat) (ps : List Int) (a1 : ByteArray) (a2 : Option Addr) (cap2 : Nat) (ds : List Int) (S : Nat) (w : World)
    (hp : Reads w (.slice a0 ps.length cap0) ps) (hd : Reads w (.slice a2 ds.length cap2) ds) (h0 : ps.length ≤ 4096) (h1 : a1.size ≤ 4096) (h2 : ds.length ≤ 4096) (h3 : S ≤ 255) :
    Calls Yba.prog 3 #[.slice a0 ps.length cap0, .string a1, .slice a2 ds.length cap2, .int .u8 S] w fun e w' => e = .returned (.bool true) ∧ Under w.heap.size w w' := by
  obtain ⟨i0, hi, hz0, hz1, hz2⟩ := info_parts info5
  have h0' : decide ((4096 : Int) < ps.length) = false := by simp; omega
  have h1' : decide ((4096 : Int) < a1.size) = false := by simp; omega
  have h2' : decide ((4096 : Int) < ds.length) = false := by simp; omega
  have hbc : i0.bytes * (ps.length + S) ≤ 281474976710656 := by rw [hz2]; omega
  go_enter Yba.func3, Yba.ntmps3
  go_wp2_with (at_make; refine wpList_make_full _ rfl _ _ 22 rfl w.heap.size 5 i0 (.int .u8 0) 1 Yba.underlying22 hi hz0 hz1 .i64 .i64 _ _ (ps.length + S) rfl rfl (by omega) (by omega) hbc (by unfold maxLen; omega) (Nat.le_refl _) ?_)
  intro W hown hgrow
  obtain ⟨cur0, hblk0, hcl0⟩ := own_full hown
  have hB0 : Below w.heap.size w W := (Below.refl _ _).grown hgrow (Nat.le_refl _) (fun k hk => by cases hk)
  clear hown hgrow
  go_wp2
  go_loopw [36] (fun i wr => ∃ (k : Nat) (cur : List Value), k ≤ ps.length + S ∧ i = .int .i64 k ∧ wr.heap[w.heap.size]? = some (.cells cur.toArray 5 (0, 0)) ∧ cur.length = ps.length + S ∧ Below w.heap.size w wr) (fun i _ => ps.length + S - (intOf i).toNat)
  case atStart => exact ⟨0, cur0, Nat.zero_le _, rfl, hblk0, hcl0, hB0⟩
  case round =>
    obtain ⟨k, cur, hk, rfl, hblk, hcl, hB⟩ := hrel
    have hlt : w.heap.size < wr.heap.size := by
      rcases Nat.lt_or_ge w.heap.size wr.heap.size with h | h
      · exact h
      · rw [Array.getElem?_eq_none h] at hblk; cases hblk
    by_cases hkl : k < ps.length + S
    · have hcell : wr.cell? ⟨w.heap.size, k, .none⟩ = some cur[k] := by
        rw [cell_of_row wr w.heap.size k cur.toArray 5 (0, 0) hblk]; simp
      have hfz : wr.frozen? ⟨w.heap.size, k, .none⟩ = false := by simp [World.frozen?, hblk]
      have hset : Hid (((wr.setCell ⟨w.heap.size, k, .none⟩ (.int .u8 170)).heap[w.heap.size]? = some (.cells (cur.set k (.int .u8 170)).toArray 5 (0, 0)))) := row_set _ hblk
      clear hblk
      go_wp2
      exact ⟨⟨k + 1, cur.set k (.int .u8 170), by omega, rfl, hset.out, by simp [hcl], hB.setCell (Nat.le_refl _) _⟩, by simp [intOf]; omega⟩
    · obtain ⟨w2, hrun, hg2, hb2⟩ := copy_run (S := S) (hp.later (Under.of hB)) hblk hcl hB
      have hc := came_block (n := ps.length) (cap := ps.length + S) hg2 (by rw [length_splice _ _ _ (by rw [cellsOf_length]; omega)]; exact hcl) (Nat.le_add_right _ _)
      rw [take_splice cur ps ps.length rfl] at hc
      have hcR := row_reads (cap := ps.length + S) hg2 (take_splice cur ps ps.length rfl) rfl
      clear hg2 hblk
      go_wp2_with (first | (go_at_call 4; refine (appendTo_any hc a1 a2 ds.length cap2 ds hd (Under.of hb2) (Nat.le_refl _) h1 h2 h0).mono ?_; rintro e w3 ⟨v3, m3, r3, rfl, hu⟩))
      have hca := came_alloc hc (.cells #[.string a1, .slice a2 ds.length cap2] 24)
      have hQ3 := olds_reads hca hu rfl
      have hU3 : Under w.heap.size w w3 := ((Under.of hb2).alloc hb2.size _).upon (by have := hb2.size; simp; omega) (Nat.le_refl _) hu
      rw [blockCells_nums] at hu
      have hR3 := upon_reads hca (by unfold maxLen; omega) hu
      have hp3 := hp.later hU3
      have hd3 := hd.later hU3
      clear hu hca hcR hc hrun
      refine (model_any a0 _ cap0 ps a1 a2 _ cap2 ds hp3 hd3 h1 h2 h0).mono ?_
      rintro e w4 ⟨v4, rfl, hR4, hU4⟩
      have hR3' := hR3.later hU4
      have hQ4 := hQ3.later hU4
      have hp4 := hp3.later hU4
      have hU5 := hU3.trans (hU4.mono hU3.size)
      clear hR3 hQ3 hp3 hd3 hU4 hU3
      go_wp2_with (first | (go_at_call_of 6 v4; refine (equal_same hR3' hR4).mono ?_; rintro e w' ⟨rfl, rfl⟩) | (go_at_call 6; refine (equal_same hQ4 hp4).mono ?_; rintro e w' ⟨rfl, rfl⟩))
      go_ret
      exact ⟨rfl, hU5⟩

end Go.Proofs.Ybulkddem
