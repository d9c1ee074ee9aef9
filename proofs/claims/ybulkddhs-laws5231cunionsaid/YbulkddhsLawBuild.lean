import Derived.Test.YbulkddhsLawSmall
import Derived.Test.YbulkddhsLawBits
namespace Go.Proofs.Ybulkddhs
open Go.RowKit

theorem boolCells_set (h : Nat → Bool) (n c : Nat) (hc : c < n) : (boolCells h n).set c (.bool true) = boolCells (fun x => h x || x == c) n := by
  apply List.ext_getElem?
  intro i
  by_cases e : c = i
  · subst e
    rw [List.getElem?_set_self (by simp [boolCells, hc]), boolCells_get _ _ _ hc]
    simp
  · rw [List.getElem?_set_ne e]
    have : (i == c) = false := by simp; omega
    by_cases hi : i < n
    · rw [boolCells_get _ _ _ hi, boolCells_get _ _ _ hi]; simp [this]
    · rw [List.getElem?_eq_none (by simp [boolCells]; omega), List.getElem?_eq_none (by simp [boolCells]; omega)]

theorem make_bools {nw : Nat} (h0 : 0 < nw) (h3 : nw ≤ 3) (w : World) : (Instr.makeSlice 33 (.int .i64 (64 * (nw : Int))) (.int .i64 (64 * (nw : Int)))).run Yba.prog w = .ok (.slice (some ⟨w.heap.size, 0, .none⟩) (64 * nw) (64 * nw)) (w.alloc (.cells (boolCells (fun _ => false) (64 * nw)).toArray 4)) := by
  rcases nw_cases h0 h3 with rfl | rfl | rfl
  · kernel_rfl
  · kernel_rfl
  · kernel_rfl
theorem make_words {nw : Nat} (h0 : 0 < nw) (h3 : nw ≤ 3) (w : World) : (Instr.makeSlice 37 (.int .i64 (nw : Int)) (.int .i64 (nw : Int))).run Yba.prog w = .ok (.slice (some ⟨w.heap.size, 0, .none⟩) nw nw) (w.alloc (.cells (wordCells (List.replicate nw 0)).toArray 39)) := by
  rcases nw_cases h0 h3 with rfl | rfl | rfl
  · kernel_rfl
  · kernel_rfl
  · kernel_rfl

/-- A ring's words hold just the copies h, from the bit o on; n, lo and top are those of h. -/
structure IsRing (nw : Nat) (W : List Nat) (o : Nat) (h : Nat → Bool) (n lo top : Nat) : Prop where
  len : W.length = nw
  fit : Fit W
  off : o < 64 * nw
  bit : ∀ p, p < 64 * nw → bitAt W p = h ((p + 64 * nw - o) % (64 * nw))
  zero : h 0 = false
  cnt : n = (scan h (64 * nw - 1)).1
  none : n = 0 → lo = 1 ∧ top = 0
  some : 0 < n → lo = (scan h (64 * nw - 1)).2.1 ∧ top = (scan h (64 * nw - 1)).2.2

def ringCells (low : Option Addr) (off n lo top : Nat) (hi : Int) (first : Bool) : List Value :=
  [.pointer low, .int .i32 off, .int .i32 n, .int .i32 lo, .int .i32 top, .int .i32 hi, .bool first]

theorem addr_add_block (b : Addr) (k : Nat) : (b.add k).block = b.block := by
  unfold Addr.add
  split <;> rfl

theorem Blk.seven {w : World} {g : Nat} {v0 v1 v2 v3 v4 v5 v6 : Value} {t : TypeId} (hb : Blk w g [v0, v1, v2, v3, v4, v5, v6] t) :
    w.cell? ⟨g, 0, .none⟩ = some v0 ∧ w.cell? ⟨g, 1, .none⟩ = some v1 ∧ w.cell? ⟨g, 2, .none⟩ = some v2 ∧ w.cell? ⟨g, 3, .none⟩ = some v3 ∧ w.cell? ⟨g, 4, .none⟩ = some v4 ∧ w.cell? ⟨g, 5, .none⟩ = some v5 ∧ w.cell? ⟨g, 6, .none⟩ = some v6 ∧
    w.frozen? ⟨g, 0, .none⟩ = false ∧ w.frozen? ⟨g, 1, .none⟩ = false ∧ w.frozen? ⟨g, 2, .none⟩ = false ∧ w.frozen? ⟨g, 3, .none⟩ = false ∧ w.frozen? ⟨g, 4, .none⟩ = false ∧ w.frozen? ⟨g, 5, .none⟩ = false ∧ w.frozen? ⟨g, 6, .none⟩ = false :=
  ⟨hb.cell 0, hb.cell 1, hb.cell 2, hb.cell 3, hb.cell 4, hb.cell 5, hb.cell 6, hb.frozen 0, hb.frozen 1, hb.frozen 2, hb.frozen 3, hb.frozen 4, hb.frozen 5, hb.frozen 6⟩

theorem ret_ring {Q : Ending → World → Prop} {a : Act} {w : World} {g : Nat} {sl : Value} {low : Option Addr} {o n lo top : Nat} {hi : Int} {first : Bool}
    (hb : Blk w g (ringCells low o n lo top hi first) 32) (h8 : a.tmps.getD 8 undef = .pointer (some ⟨g, 0, .none⟩)) (h9 : a.tmps.getD 9 undef = sl) (hd : a.defers = [])
    (hQ : Q (.returned (.tuple #[.agg (ringCells low o n lo top hi first).toArray, sl])) w) : bodyPost Yba.prog Yba.f5 Q .ret a w := by
  obtain ⟨r0, r1, r2, r3, r4, r5, r6, _⟩ := hb.seven
  refine bodyPost_ret (v := .tuple #[.agg (ringCells low o n lo top hi first).toArray, sl]) ?_ hd hQ
  simp only [Array.getD_eq_getD_getElem?] at h8 h9
  simp [results, Yba.results5, go_sem, ringCells, h8, h9, r0, r1, r2, r3, r4, r5, r6]

/-- What zzs5231cbuild hands back: the ring r, and has. -/
def Built (nw off : Nat) (noLow : Bool) (w : World) (e : Ending) (w' : World) : Prop :=
  ∃ (low : Option Addr) (o n lo top HB : Nat) (h : Nat → Bool), e = .returned (.tuple #[.agg (ringCells low o n lo top (-1) false).toArray, .slice (some ⟨HB, 0, .none⟩) (64 * nw) (64 * nw)]) ∧
    h 0 = false ∧ Blk w' HB (boolCells h (64 * nw)) 4 ∧ w.heap.size ≤ HB ∧ KeptBut [] w w' ∧
    ((low = .none ∧ o = 0 ∧ n = 0 ∧ lo = 1 ∧ top = 0 ∧ (∀ c, h c = false) ∧ noLow = true) ∨
      ∃ L WB W, low = some ⟨L, 0, .none⟩ ∧ o = off % (64 * nw) ∧ Blk w' L [.slice (some ⟨WB, 0, .none⟩) nw nw, .int .i32 1] 41 ∧ Blk w' WB (wordCells W) 39 ∧ w.heap.size ≤ L ∧ w.heap.size ≤ WB ∧ IsRing nw W o h n lo top)

set_option maxHeartbeats 2000000 in
theorem build_any (nw off len cap : Nat) (a : Option Addr) (noLow : Bool) (F : Nat → Nat) (w : World) (h0 : 0 < nw) (h3 : nw ≤ 3) (hl : len ≤ 1024) (hoff : off < 65536)
    (hF : ∀ i, i < len → F i < 65536) (hc : ∀ i, i < len → ∃ b, a = some b ∧ w.cell? (b.add i) = some (.int .u16 (F i)) ∧ b.block < w.heap.size) :
    Calls Yba.prog 5 #[.int .i64 nw, .int .u16 off, .slice a len cap, .bool noLow] w (Built nw off noLow w) := by
  have hmb : ∀ w, (Instr.makeSlice 33 (.int .i64 (64 * (nw : Int))) (.int .i64 (64 * (nw : Int)))).run Yba.prog w = .ok (.slice (some ⟨w.heap.size, 0, .none⟩) (64 * nw) (64 * nw)) (w.alloc (.cells (boolCells (fun _ => false) (64 * nw)).toArray 4)) := make_bools h0 h3
  have hmw : ∀ w, (Instr.makeSlice 37 (.int .i64 (nw : Int)) (.int .i64 (nw : Int))).run Yba.prog w = .ok (.slice (some ⟨w.heap.size, 0, .none⟩) nw nw) (w.alloc (.cells (wordCells (List.replicate nw 0)).toArray 39)) := make_words h0 h3
  have HC : Hid (∀ i, i < len → ∃ b, a = some b ∧ w.cell? (b.add i) = some (.int .u16 (F i)) ∧ b.block < w.heap.size) := hc
  clear hc
  have HF : Hid (∀ i, i < len → F i < 65536) := hF
  clear hF
  go_enter Yba.func5, Yba.ntmps5
  go_wp2
  go_loopw [28] (fun i wr => ∃ (k : Nat) (h : Nat → Bool), k ≤ len ∧ i = .int .i64 k ∧ h 0 = false ∧ (k = 0 → ∀ c, h c = false) ∧ Blk wr (w.heap.size + 1) (boolCells h (64 * nw)) 4 ∧
    Blk wr w.heap.size [.pointer .none, .int .i32 0, .int .i32 0, .int .i32 0, .int .i32 0, .int .i32 0, .bool false] 32 ∧ KeptBut [] w wr ∧ wr.heap.size = w.heap.size + 2) (fun i _ => len - (intOf i).toNat)
  case atStart =>
    refine ⟨0, fun _ => false, Nat.zero_le _, rfl, rfl, fun _ _ => rfl, ?_, ?_, ((KeptBut.refl _ _).alloc _).alloc _, ?_⟩
    · have := Blk.new (w.alloc (.cells #[.pointer .none, .int .i32 0, .int .i32 0, .int .i32 0, .int .i32 0, .int .i32 0, .bool false] 32)) (boolCells (fun _ => false) (64 * nw)) 4
      simpa using this
    · exact (Blk.new w [.pointer .none, .int .i32 0, .int .i32 0, .int .i32 0, .int .i32 0, .int .i32 0, .bool false] 32).alloc _
    · simp
  case round =>
    obtain ⟨k, h, hk, rfl, hh0, hhk, hbH, hbR, hkp, hsz⟩ := hrel
    by_cases hlt : k < len
    · obtain ⟨b, rfl, hcell, hbb⟩ := HC.out k hlt
      have hFk := HF.out k hlt
      have hcr : wr.cell? (b.add k) = some (.int .u16 (F k)) := (World.cell?_of_block (a := b.add k) (hkp.block _ (by rw [addr_add_block]; exact hbb) (by simp))).trans hcell
      clear hcell
      obtain ⟨q, hq, hql⟩ : ∃ q : Nat, ((F k : Nat) : Int) % (64 * (nw : Int) - 1) = (q : Int) ∧ 1 + q < 64 * nw := by
        have e : ((64 * nw - 1 : Nat) : Int) = 64 * (nw : Int) - 1 := by omega
        refine ⟨F k % (64 * nw - 1), by rw [← e, Int.natCast_emod], ?_⟩
        have := Nat.mod_lt (F k) (show 0 < 64 * nw - 1 by omega)
        omega
      have hc1 := hbH.cell (1 + q)
      rw [boolCells_get _ _ _ hql] at hc1
      have hf1 := hbH.frozen (1 + q)
      have hkI : (k : Int) < len := by omega
      have hqI : 1 + (q : Int) < 64 * nw := by omega
      have HS : Hid (Blk (wr.setCell ⟨w.heap.size + 1, 1 + q, .none⟩ (.bool true)) (w.heap.size + 1) (boolCells (fun x => h x || x == 1 + q) (64 * nw)) 4) := by
        have := hbH.set (1 + q) (.bool true)
        rw [boolCells_set _ _ _ hql] at this
        exact this
      have HR : Hid (Blk (wr.setCell ⟨w.heap.size + 1, 1 + q, .none⟩ (.bool true)) w.heap.size [.pointer .none, .int .i32 0, .int .i32 0, .int .i32 0, .int .i32 0, .int .i32 0, .bool false] 32) := hbR.other (by omega) _ _
      clear hbH hbR
      go_wp2
      go_roundw
      case rel => exact ⟨k + 1, _, by omega, by go_num, by simp [hh0]; omega, fun h => by omega, HS.out, HR.out, hkp.setCell (.inl (by omega)) _ _, by simpa [World.setCell] using hsz⟩
      case measure => simp [intOf]; omega
    · obtain rfl : k = len := by omega
      have HB : Hid (Blk wr (w.heap.size + 1) (boolCells h (64 * nw)) 4) := hbH
      have HR : Hid (Blk wr w.heap.size [.pointer .none, .int .i32 0, .int .i32 0, .int .i32 0, .int .i32 0, .int .i32 0, .bool false] 32) := hbR
      obtain ⟨r0, r1, r2, r3, r4, r5, r6, f0, f1, f2, f3, f4, f5, f6⟩ := hbR.seven
      clear hbH hbR
      by_cases hearly : noLow = true ∧ k = 0
      · obtain ⟨rfl, rfl⟩ := hearly
        go_wp2
        refine ret_ring (low := .none) (o := 0) (n := 0) (lo := 1) (top := 0) (hi := -1) (first := false) (g := w.heap.size) ?_ rfl rfl rfl ?_
        · refine Blk.alloc ?_ _
          exact ((((((HR.out.set 0 _).set 1 _).set 2 _).set 3 _).set 4 _).set 5 _).set 6 _
        refine ⟨.none, 0, 0, 1, 0, w.heap.size + 1, h, rfl, hh0, ?_, by omega, ?_, .inl ⟨rfl, rfl, rfl, rfl, rfl, by simpa using hhk, rfl⟩⟩
        · refine Blk.alloc ?_ _
          repeat refine Blk.other ?_ (by omega) _ _
          exact HB.out
        · refine KeptBut.alloc ?_ _
          repeat refine KeptBut.setCell ?_ (.inl (by omega)) _ _
          exact hkp
      · obtain ⟨o, ho, hol⟩ : ∃ o : Nat, (off : Int) % (64 * (nw : Int)) = (o : Int) ∧ o < 64 * nw := ⟨off % (64 * nw), by rw [Int.natCast_emod]; simp, Nat.mod_lt _ (by omega)⟩
        have hway : noLow = false ∨ (noLow = true ∧ (k : Int) ≠ 0) := by
          cases noLow
          · exact .inl rfl
          · exact .inr ⟨rfl, fun h => hearly ⟨rfl, by omega⟩⟩
        clear hearly
        rcases hway with rfl | ⟨rfl, hz⟩
        all_goals
          go_wp2
          go_loopw [17, 18, 19, 20] (fun vn vl vt vc wr => ∃ (c : Nat) (W : List Nat), 1 ≤ c ∧ c ≤ 64 * nw ∧ vc = .int .i64 c ∧ vn = .int .i64 ((scan h (c - 1)).1 : Nat) ∧ vl = .int .i64 ((scan h (c - 1)).2.1 : Nat) ∧ vt = .int .i64 ((scan h (c - 1)).2.2 : Nat) ∧
              W.length = nw ∧ Fit W ∧ (∀ p, p < 64 * nw → bitAt W p = (h ((p + 64 * nw - o) % (64 * nw)) && decide ((p + 64 * nw - o) % (64 * nw) < c))) ∧
              Blk wr (w.heap.size + 1) (boolCells h (64 * nw)) 4 ∧ Blk wr w.heap.size [.pointer .none, .int .i32 0, .int .i32 0, .int .i32 0, .int .i32 0, .int .i32 0, .bool false] 32 ∧
              Blk wr (w.heap.size + 2) (ringCells (some ⟨w.heap.size + 4, 0, .none⟩) o 0 1 0 (-1) false) 32 ∧ Blk wr (w.heap.size + 3) (wordCells W) 39 ∧ Blk wr (w.heap.size + 4) [.slice (some ⟨w.heap.size + 3, 0, .none⟩) nw nw, .int .i32 1] 41 ∧
              KeptBut [] w wr ∧ wr.heap.size = w.heap.size + 5) (fun _ _ _ vc _ => 64 * nw - (intOf vc).toNat)
          case atStart =>
            refine ⟨1, List.replicate nw 0, Nat.le_refl _, by omega, rfl, rfl, rfl, rfl, by simp, ?_, ?_, ?_, ?_, ?_, ?_, ?_, ?_, ?_⟩
            · exact fit_none nw
            · exact bits_none hh0
            · exact ((HB.out.alloc _).alloc _).alloc _
            · exact ((HR.out.alloc _).alloc _).alloc _
            · have := ((Blk.new wr (ringCells (some ⟨w.heap.size + 4, 0, .none⟩) o 0 1 0 (-1) false) 32).alloc (.cells (wordCells (List.replicate nw 0)).toArray 39)).alloc (.cells #[.slice (some ⟨w.heap.size + 3, 0, .none⟩) nw nw, .int .i32 1] 41)
              rw [hsz] at this
              exact this
            · have := (Blk.new (wr.alloc (.cells (ringCells (some ⟨w.heap.size + 4, 0, .none⟩) o 0 1 0 (-1) false).toArray 32)) (wordCells (List.replicate nw 0)) 39).alloc (.cells #[.slice (some ⟨w.heap.size + 3, 0, .none⟩) nw nw, .int .i32 1] 41)
              have e : (wr.alloc (.cells (ringCells (some ⟨w.heap.size + 4, 0, .none⟩) o 0 1 0 (-1) false).toArray 32)).heap.size = w.heap.size + 3 := by simp [hsz]
              rw [e] at this
              exact this
            · have := Blk.new ((wr.alloc (.cells (ringCells (some ⟨w.heap.size + 4, 0, .none⟩) o 0 1 0 (-1) false).toArray 32)).alloc (.cells (wordCells (List.replicate nw 0)).toArray 39)) [.slice (some ⟨w.heap.size + 3, 0, .none⟩) nw nw, .int .i32 1] 41
              have e : ((wr.alloc (.cells (ringCells (some ⟨w.heap.size + 4, 0, .none⟩) o 0 1 0 (-1) false).toArray 32)).alloc (.cells (wordCells (List.replicate nw 0)).toArray 39)).heap.size = w.heap.size + 4 := by simp [hsz]
              rw [e] at this
              exact this
            · exact ((hkp.alloc _).alloc _).alloc _
            · simp [hsz]
          case round =>
            obtain ⟨c, W, hc1, hc2, rfl, rfl, rfl, rfl, hWl, hWf, hWb, hbH, hbR, hbr, hbW, hbL, hkp2, hsz2⟩ := hrel
            obtain ⟨s0, s1, s2, s3, s4, s5, s6, g0, g1, g2, g3, g4, g5, g6⟩ := hbr.seven
            have hscan := scan_le h (c - 1)
            have hcm : c - 1 + 1 = c := by omega
            have KH : Hid (Blk wr (w.heap.size + 1) (boolCells h (64 * nw)) 4) := hbH
            have KR : Hid (Blk wr w.heap.size [.pointer .none, .int .i32 0, .int .i32 0, .int .i32 0, .int .i32 0, .int .i32 0, .bool false] 32) := hbR
            have Kr : Hid (Blk wr (w.heap.size + 2) (ringCells (some ⟨w.heap.size + 4, 0, .none⟩) o 0 1 0 (-1) false) 32) := hbr
            have KW : Hid (Blk wr (w.heap.size + 3) (wordCells W) 39) := hbW
            have KL : Hid (Blk wr (w.heap.size + 4) [.slice (some ⟨w.heap.size + 3, 0, .none⟩) nw nw, .int .i32 1] 41) := hbL
            by_cases hcl : c < 64 * nw
            · have hhc := hbH.cell c
              rw [boolCells_get _ _ _ hcl] at hhc
              clear hbH hbR hbr hbL
              have hcI : (c : Int) < 64 * nw := by omega
              cases hb : h c
              · clear hbW
                rw [hb] at hhc
                have hsc : scan h (c + 1 - 1) = scan h (c - 1) := by
                  have := scan_no (h := h) (m := c - 1) (by rw [hcm]; exact hb)
                  rw [hcm] at this
                  simpa using this
                have HWb : Hid (∀ p, p < 64 * nw → bitAt W p = (h ((p + 64 * nw - o) % (64 * nw)) && decide ((p + 64 * nw - o) % (64 * nw) < c + 1))) := bits_no hWb hb
                have HSC : Hid (scan h (c + 1 - 1) = scan h (c - 1)) := hsc
                clear hsc hWb
                go_wp2
                go_roundw
                case rel => exact ⟨c + 1, W, by omega, by omega, by go_num, by rw [HSC.out], by rw [HSC.out], by rw [HSC.out], hWl, hWf, HWb.out, KH.out, KR.out, Kr.out, KW.out, KL.out, hkp2, hsz2⟩
                case measure => simp [intOf]; omega
              · obtain ⟨p, hp, hpn, hpl⟩ : ∃ p : Nat, ((o : Int) + (c : Int)) % (64 * (nw : Int)) = (p : Int) ∧ p = (o + c) % (64 * nw) ∧ p < 64 * nw := ⟨(o + c) % (64 * nw), by rw [Int.natCast_emod]; simp, rfl, Nat.mod_lt _ (by omega)⟩
                have hpw : p / 64 < W.length := by omega
                have hwc := hbW.cell (p / 64)
                rw [wordCells_get W _ hpw] at hwc
                have hwf := hbW.frozen (p / 64)
                have hpI : (p : Int) / 64 < nw := by omega
                rw [hb] at hhc
                have HWb : Hid (∀ q, q < 64 * nw → bitAt (W.set (p / 64) (W.getD (p / 64) 0 ||| 2 ^ (p % 64))) q = (h ((q + 64 * nw - o) % (64 * nw)) && decide ((q + 64 * nw - o) % (64 * nw) < c + 1))) := bits_yes h0 h3 hol hcl hpn hWl hWf hWb hb
                obtain ⟨hl2, hf2, _⟩ := bit_set (p0 := p) hWl hWf
                have HF2 : Hid (Fit (W.set (p / 64) (W.getD (p / 64) 0 ||| 2 ^ (p % 64)))) := hf2
                have HL2 : Hid ((W.set (p / 64) (W.getD (p / 64) 0 ||| 2 ^ (p % 64))).length = nw) := hl2
                have HSet : Hid (Blk (wr.setCell ⟨w.heap.size + 3, p / 64, .none⟩ (.int .u64 ((W.getD (p / 64) 0 ||| 2 ^ (p % 64) : Nat) : Int))) (w.heap.size + 3) (wordCells (W.set (p / 64) (W.getD (p / 64) 0 ||| 2 ^ (p % 64)))) 39) := by
                  have := hbW.set (p / 64) (.int .u64 ((W.getD (p / 64) 0 ||| 2 ^ (p % 64) : Nat) : Int))
                  rw [wordCells_set] at this
                  exact this
                have hor : bits .or .u64 ((W.getD (p / 64) 0 : Nat) : Int) (IntKind.u64.wrap (2 ^ (p % 64))) = ((W.getD (p / 64) 0 ||| 2 ^ (p % 64) : Nat) : Int) := by
                  have hlt : 2 ^ (p % 64) < 2 ^ 64 := Nat.pow_lt_pow_right (by decide) (Nat.mod_lt _ (by decide))
                  have e : IntKind.u64.wrap (2 ^ (p % 64)) = ((2 ^ (p % 64) : Nat) : Int) := by
                    have : ((2 : Int) ^ (p % 64)) = ((2 ^ (p % 64) : Nat) : Int) := by simp
                    rw [this]
                    generalize 2 ^ (p % 64) = y at *
                    rw [IntKind.wrap_u64]
                    omega
                  rw [e]
                  exact u64_or_nat _ _ (hWf _) hlt
                have hsc : scan h (c + 1 - 1) = ((scan h (c - 1)).1 + 1, (if (scan h (c - 1)).1 = 0 then c else (scan h (c - 1)).2.1), c) := by
                  have := scan_yes (h := h) (m := c - 1) (by rw [hcm]; exact hb)
                  rw [hcm] at this
                  simpa using this
                have HSC : Hid (scan h (c + 1 - 1) = ((scan h (c - 1)).1 + 1, (if (scan h (c - 1)).1 = 0 then c else (scan h (c - 1)).2.1), c)) := hsc
                clear hsc hWb hf2 hl2 hbW hpn hcm
                generalize W.getD (p / 64) 0 ||| 2 ^ (p % 64) = x at *
                generalize W.getD (p / 64) 0 = z at *
                by_cases hn0 : (scan h (c - 1)).1 = 0
                · have hnI : ((scan h (c - 1)).1 : Int) = 0 := by omega
                  go_wp2
                  go_roundw
                  case rel =>
                    refine ⟨c + 1, _, by omega, by omega, by go_num, ?_, ?_, ?_, HL2.out, HF2.out, HWb.out, KH.out.other (by omega) _ _, KR.out.other (by omega) _ _, Kr.out.other (by omega) _ _, HSet.out, KL.out.other (by omega) _ _, hkp2.setCell (.inl (by omega)) _ _, ?_⟩
                    · rw [HSC.out]; go_num
                    · rw [HSC.out]; simp [hn0]
                    · rw [HSC.out]
                    · simpa [World.setCell] using hsz2
                  case measure => simp [intOf]; omega
                · have hnI : ((scan h (c - 1)).1 : Int) ≠ 0 := by omega
                  go_wp2
                  go_roundw
                  case rel =>
                    refine ⟨c + 1, _, by omega, by omega, by go_num, ?_, ?_, ?_, HL2.out, HF2.out, HWb.out, KH.out.other (by omega) _ _, KR.out.other (by omega) _ _, Kr.out.other (by omega) _ _, HSet.out, KL.out.other (by omega) _ _, hkp2.setCell (.inl (by omega)) _ _, ?_⟩
                    · rw [HSC.out]; go_num
                    · rw [HSC.out]; simp [hn0]
                    · rw [HSC.out]
                    · simpa [World.setCell] using hsz2
                  case measure => simp [intOf]; omega
            · obtain rfl : c = 64 * nw := by omega
              have hcb : ¬ ((64 * nw : Nat) : Int) < 64 * nw := by omega
              clear hbH hbr hbW hbL
              obtain ⟨r0, r1, r2, r3, r4, r5, r6, f0, f1, f2, f3, f4, f5, f6⟩ := hbR.seven
              clear hbR
              have HWb : Hid (∀ p, p < 64 * nw → bitAt W p = h ((p + 64 * nw - o) % (64 * nw))) := bits_all h0 hWb
              clear hWb hcm
              have HON : Hid (o = off % (64 * nw)) := by
                show _ = _
                have : ((off % (64 * nw) : Nat) : Int) = (o : Int) := by rw [← ho, Int.natCast_emod]; simp
                omega
              rcases scan_spec h (64 * nw - 1) with ⟨q1, q2, q3, _⟩ | ⟨q1, q2, q3, q4, _⟩
              · have HI : Hid (IsRing nw W o h 0 1 0) := ⟨hWl, hWf, hol, HWb.out, hh0, q1.symm, fun _ => ⟨rfl, rfl⟩, fun hh => by omega⟩
                have q1I : ((scan h (64 * nw - 1)).1 : Int) = 0 := by omega
                clear hscan
                go_wp2
                refine ret_ring (low := some ⟨w.heap.size + 4, 0, .none⟩) (o := o) (n := 0) (lo := 1) (top := 0) (hi := -1) (first := false) (g := w.heap.size) ?_ rfl rfl rfl ?_
                · exact ((((((KR.out.set 0 _).set 1 _).set 2 _).set 3 _).set 4 _).set 5 _).set 6 _
                refine ⟨_, _, _, _, _, w.heap.size + 1, h, rfl, hh0, ?_, by omega, ?_, .inr ⟨w.heap.size + 4, w.heap.size + 3, W, rfl, HON.out, ?_, ?_, by omega, by omega, HI.out⟩⟩
                · repeat refine Blk.other ?_ (by omega) _ _
                  exact KH.out
                · repeat refine KeptBut.setCell ?_ (.inl (by omega)) _ _
                  exact hkp2
                · repeat refine Blk.other ?_ (by omega) _ _
                  exact KL.out
                · repeat refine Blk.other ?_ (by omega) _ _
                  exact KW.out
              · have HI : Hid (IsRing nw W o h (scan h (64 * nw - 1)).1 (scan h (64 * nw - 1)).2.1 (scan h (64 * nw - 1)).2.2) := ⟨hWl, hWf, hol, HWb.out, hh0, rfl, fun hh => by omega, fun _ => ⟨rfl, rfl⟩⟩
                generalize (scan h (64 * nw - 1)).1 = n at *
                generalize (scan h (64 * nw - 1)).2.1 = lo at *
                generalize (scan h (64 * nw - 1)).2.2 = top at *
                have q1I : 0 < (n : Int) := by omega
                go_wp2
                refine ret_ring (low := some ⟨w.heap.size + 4, 0, .none⟩) (o := o) (n := n) (lo := lo) (top := top) (hi := -1) (first := false) (g := w.heap.size) ?_ rfl rfl rfl ?_
                · exact (((((((((KR.out.other (by omega) 2 _).other (by omega) 3 _).other (by omega) 4 _).set 0 _).set 1 _).set 2 _).set 3 _).set 4 _).set 5 _).set 6 _
                refine ⟨_, _, _, _, _, w.heap.size + 1, h, rfl, hh0, ?_, by omega, ?_, .inr ⟨w.heap.size + 4, w.heap.size + 3, W, rfl, HON.out, ?_, ?_, by omega, by omega, HI.out⟩⟩
                · repeat refine Blk.other ?_ (by omega) _ _
                  exact KH.out
                · repeat refine KeptBut.setCell ?_ (.inl (by omega)) _ _
                  exact hkp2
                · repeat refine Blk.other ?_ (by omega) _ _
                  exact KL.out
                · repeat refine Blk.other ?_ (by omega) _ _
                  exact KW.out

end Go.Proofs.Ybulkddhs
