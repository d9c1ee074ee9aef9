import Derived.Test.YbulkddhsLawStart
import Derived.Test.YbulkddhsLawSame
import Derived.Test.YbulkddhsLawEnd
import Derived.Deep.CutBlock
namespace Go.Proofs.Ybulkddhs
open Go.RowKit

set_option maxRecDepth 100000 in
set_option maxHeartbeats 4000000 in
theorem law_any (w : World) (A nw rOff sOff len3 cap3 len4 cap4 : Nat) (a3 a4 : Option Addr) (F3 F4 : Nat → Nat) (rh sh : Int) (rf sf noLow shared : Bool)
    (hA : A < 256) (hnw : nw = 1 + A % 3) (hro : rOff < 65536) (hso : sOff < 65536) (hl3 : len3 ≤ 1024) (hl4 : len4 ≤ 1024)
    (hF3 : ∀ i, i < len3 → F3 i < 65536) (hc3 : ∀ i, i < len3 → ∃ b, a3 = some b ∧ w.cell? (b.add i) = some (.int .u16 (F3 i)) ∧ b.block < w.heap.size)
    (hF4 : ∀ i, i < len4 → F4 i < 65536) (hc4 : ∀ i, i < len4 → ∃ b, a4 = some b ∧ w.cell? (b.add i) = some (.int .u16 (F4 i)) ∧ b.block < w.heap.size) :
    Calls Yba.prog 3 #[.int .u8 A, .int .u16 rOff, .int .u16 sOff, .slice a3 len3 cap3, .slice a4 len4 cap4, .int .i32 rh, .int .i32 sh, .bool rf, .bool sf, .bool noLow, .bool shared] w fun e w' => e = .returned (.bool true) ∧ KeptBut [] w w' := by
  have h0 : 0 < nw := by omega
  have h3 : nw ≤ 3 := by omega
  have hw : (1 : Int) + (A : Int) % 3 = (nw : Int) := by omega
  have d3 : decide ((1024 : Int) < len3) = false := by simp; omega
  have d4 : decide ((1024 : Int) < len4) = false := by simp; omega
  clear hnw
  obtain ⟨w0, hw0⟩ : ∃ w0, w0 = ((w.alloc (.cells #[.int .u32 0, .int .i64 (64 * (nw : Int) + 1), .int .i64 (-1), .int .i64 (nw : Int)] 28)).alloc (.cells #[.slice .none 0 0] 54)).alloc (.cells #[.slice (some ⟨w.heap.size, 0, .none⟩) 1 1, .slice (some ⟨w.heap.size + 1, 0, .none⟩) 1 1] 49) := ⟨_, rfl⟩
  have hk0 : KeptBut [] w w0 := by
    rw [hw0]; exact (((KeptBut.refl _ _).alloc _).alloc _).alloc _
  have hp0 : Pool w0 (w.heap.size + 2) w.heap.size (w.heap.size + 1) nw := by
    rw [hw0]
    refine ⟨?_, ?_, ?_⟩
    · have := Blk.new ((w.alloc (.cells #[.int .u32 0, .int .i64 (64 * (nw : Int) + 1), .int .i64 (-1), .int .i64 (nw : Int)] 28)).alloc (.cells #[.slice .none 0 0] 54)) [.slice (some ⟨w.heap.size, 0, .none⟩) 1 1, .slice (some ⟨w.heap.size + 1, 0, .none⟩) 1 1] 49
      simpa using this
    · exact ((Blk.new w [.int .u32 0, .int .i64 (64 * (nw : Int) + 1), .int .i64 (-1), .int .i64 (nw : Int)] 28).alloc _).alloc _
    · have := (Blk.new (w.alloc (.cells #[.int .u32 0, .int .i64 (64 * (nw : Int) + 1), .int .i64 (-1), .int .i64 (nw : Int)] 28)) [.slice .none 0 0] 54).alloc (.cells #[.slice (some ⟨w.heap.size, 0, .none⟩) 1 1, .slice (some ⟨w.heap.size + 1, 0, .none⟩) 1 1] 49)
      simpa using this
  have hz0 : w0.heap.size = w.heap.size + 3 := by rw [hw0]; simp
  have HW0 : Hid (((w.alloc (.cells #[.int .u32 0, .int .i64 (64 * (nw : Int) + 1), .int .i64 (-1), .int .i64 (nw : Int)] 28)).alloc (.cells #[.slice .none 0 0] 54)).alloc (.cells #[.slice (some ⟨w.heap.size, 0, .none⟩) 1 1, .slice (some ⟨w.heap.size + 1, 0, .none⟩) 1 1] 49) = w0) := hw0.symm
  have HK0 : Hid (KeptBut [] w w0) := hk0
  have HP0 : Hid (Pool w0 (w.heap.size + 2) w.heap.size (w.heap.size + 1) nw) := hp0
  have carry : ∀ {a : Option Addr} {len : Nat} {F : Nat → Nat} {wx : World}, KeptBut [] w wx → (∀ i, i < len → ∃ b, a = some b ∧ w.cell? (b.add i) = some (.int .u16 (F i)) ∧ b.block < w.heap.size) →
      ∀ i, i < len → ∃ b, a = some b ∧ wx.cell? (b.add i) = some (.int .u16 (F i)) ∧ b.block < wx.heap.size := by
    intro a len F wx hk hc i hi
    obtain ⟨b, e1, e2, e3⟩ := hc i hi
    exact ⟨b, e1, (World.cell?_of_block (a := b.add i) (hk.block _ (by rw [addr_add_block]; exact e3) (by simp))).trans e2, Nat.lt_of_lt_of_le e3 hk.size⟩
  have HB3 : Hid (∀ wx, KeptBut [] w wx → Calls Yba.prog 5 #[.int .i64 nw, .int .u16 rOff, .slice a3 len3 cap3, .bool noLow] wx (Built nw rOff noLow wx)) := fun wx hk => build_any nw rOff len3 cap3 a3 noLow F3 wx h0 h3 hl3 hro hF3 (carry hk hc3)
  have HB4 : Hid (∀ wx, KeptBut [] w wx → Calls Yba.prog 5 #[.int .i64 nw, .int .u16 sOff, .slice a4 len4 cap4, .bool false] wx (Built nw sOff false wx)) := fun wx hk => build_any nw sOff len4 cap4 a4 false F4 wx h0 h3 hl4 hso hF4 (carry hk hc4)
  clear hw0 hk0 hp0 hF3 hc3 hF4 hc4 carry
  go_enter Yba.func3, Yba.ntmps3
  go_upto_region 7 with (first
    | (go_at_call 4; refine (pool_any _ _).mono ?_; rintro e wx ⟨rfl, rfl⟩; simp only [World.size_alloc, HW0.out])
    | (go_at_call 5; refine (HB3.out _ HK0.out).mono ?_; intro e w1 hb; obtain ⟨low, o, n, lo, top, HB, h, rfl, hrest⟩ := hb.open; have Q1 : Hid _ := hrest; clear hb hrest))
  clear HB3 HW0
  go_upto_region 8 with (go_at_call 5; refine (HB4.out _ ((HK0.out.trans Q1.out.2.2.2.1).alloc _)).mono ?_; intro e w2 hb2; obtain ⟨slow, so, sn, slo, stop, HBs, hs, rfl, hrest⟩ := hb2.open; have Q2 : Hid _ := hrest; clear hb2 hrest)
  clear HB4
  obtain ⟨SL, SW, L, WB, W, V, rfl, st0⟩ := start_of HK0.out HP0.out Q1.out Q2.out
  clear Q1 Q2 HK0 HP0 hz0
  generalize w1.heap.size = R at *
  generalize w2.heap.size = S at *
  generalize w2.alloc (.cells #[.pointer (some ⟨SL, 0, .none⟩), .int .i32 so, .int .i32 sn, .int .i32 slo, .int .i32 stop, .int .i32 (-1), .bool false] 32) = w3 at *
  have ST : Hid (Start w w3 nw R S HB HBs SL SW L WB (rOff % (64 * nw)) o n lo top so sn slo stop low W V h hs (-1) (-1) false false 1) := st0
  clear st0
  have hRS := ST.out.ne
  obtain ⟨r0, r1, r2, r3, r4, r5, r6, f0, f1, f2, f3, f4, f5, f6⟩ := ST.out.ring.seven
  obtain ⟨s0, s1, s2, s3, s4, s5, s6, g0, g1, g2, g3, g4, g5, g6⟩ := ST.out.src.seven
  go_upto_if 98 with (go_at_call 6; refine (canon_any _ _).mono ?_; rintro _ wx ⟨rfl, ew⟩; rw [ew]; clear ew)
  have ST5 : Hid (Start w ((((w3.setCell ⟨R, 5, .none⟩ (.int .i32 (canon rh))).setCell ⟨R, 6, .none⟩ (.bool rf)).setCell ⟨S, 5, .none⟩ (.int .i32 (canon sh))).setCell ⟨S, 6, .none⟩ (.bool sf)) nw R S HB HBs SL SW L WB (rOff % (64 * nw)) o n lo top so sn slo stop low W V h hs (canon rh) (canon sh) rf sf 1) := by
    have a1 := ST.out.setR (((KeptBut.refl _ _).setCell (.inr (by simp)) 5 (.int .i32 (canon rh))).setCell (.inr (by simp)) 6 (.bool rf)) ((ST.out.ring.set 5 (.int .i32 (canon rh))).set 6 (.bool rf))
    exact a1.setS (((KeptBut.refl _ _).setCell (.inr (by simp)) 5 (.int .i32 (canon sh))).setCell (.inr (by simp)) 6 (.bool sf)) ((a1.src.set 5 (.int .i32 (canon sh))).set 6 (.bool sf))
  clear r0 r1 r2 r3 r4 r5 r6 f0 f1 f2 f3 f4 f5 f6 s0 s1 s2 s3 s4 s5 s6 g0 g1 g2 g3 g4 g5 g6 ST
  generalize (((w3.setCell ⟨R, 5, .none⟩ (.int .i32 (canon rh))).setCell ⟨R, 6, .none⟩ (.bool rf)).setCell ⟨S, 5, .none⟩ (.int .i32 (canon sh))).setCell ⟨S, 6, .none⟩ (.bool sf) = w5 at *
  go_cut [33] from 48 to 107 (fun v wc => Start w wc nw R S HB HBs SL SW L WB (rOff % (64 * nw)) o n lo top so sn slo stop low W V h hs (canon rh) (canon sh) rf sf (if shared = true then 2 else 1) ∧ (low = none ∨ (∃ OB oc, v = .slice (some ⟨OB, 0, .none⟩) nw oc ∧ WordsAt wc OB W ∧ OB ≠ WB)))
  case first =>
    rcases ST5.out.words with ⟨e, _⟩ | ⟨e, bL, bW, rr, _⟩
    · subst e
      have ST6 : Hid (Start w w5 nw R S HB HBs SL SW L WB (rOff % (64 * nw)) o n lo top so sn slo stop none W V h hs (canon rh) (canon sh) rf sf (if shared = true then 2 else 1)) := by
        refine ⟨ST5.out.kept, ST5.out.pool, ST5.out.ring, ST5.out.src, ST5.out.ne, ST5.out.has, ST5.out.hasS, ST5.out.sl, ST5.out.sw, ST5.out.srcRing, ST5.out.hz, ST5.out.newR, ST5.out.newS, ?_⟩
        rcases ST5.out.words with e | ⟨e, _⟩
        · exact .inl e
        · cases e
      go_wp2
      go_meet
      case rel => exact ⟨ST6.out, .inl trivial⟩
    · subst e
      have l0 := bL.cell 0
      have l1 := bL.cell 1
      have q1 := bL.frozen 1
      simp at l0 l1
      have hWlt := bW.lt
      have hLlt := bL.lt
      have hWl := rr.len
      have BW : Hid (Blk w5 WB (wordCells W) 39) := bW
      have BL : Hid (Blk w5 L [.slice (some ⟨WB, 0, .none⟩) nw nw, .int .i32 1] 41) := bL
      clear bL bW rr
      cases shared with
      | false =>
        go_wp2_with (go_at_call 7; refine (clone_nw hWl h0 h3 BW.out).mono ?_; rintro _ w6 ⟨OB, oc, rfl, hOB, hO6, hk6⟩; have HO6 : Hid (WordsAt w6 OB W) := hO6; have HK6 : Hid (KeptBut [] w5 w6) := hk6; clear hO6 hk6)
        go_meet
        case rel => exact ⟨ST5.out.later HK6.out, .inr ⟨OB, oc, rfl, HO6.out, by omega⟩⟩
      | true =>
        go_wp2_with (go_at_call 7; refine (clone_nw hWl h0 h3 BW.out).mono ?_; rintro _ w6 ⟨OB, oc, rfl, hOB, hO6, hk6⟩; have l16 := (BL.out.kept hk6 (by simp)).cell 1; have q16 := (BL.out.kept hk6 (by simp)).frozen 1; have HO6 : Hid (WordsAt w6 OB W) := hO6; have HK6 : Hid (KeptBut [] w5 w6) := hk6; clear hO6 hk6; simp at l16)
        go_meet
        case rel =>
          have kk : KeptBut [L] w6 (w6.setCell ⟨L, 1, .none⟩ (.int .i32 2)) := (KeptBut.refl _ _).setCell (.inr (by simp)) _ _
          refine ⟨(ST5.out.later HK6.out).setL (by simp) kk ((BL.out.kept HK6.out (by simp)).set 1 _), .inr ⟨OB, oc, rfl, HO6.out.kept kk (by simp; omega), by omega⟩⟩
  case rest =>
    obtain ⟨st, hold⟩ := hcut
    have ST : Hid (Start w wc nw R S HB HBs SL SW L WB (rOff % (64 * nw)) o n lo top so sn slo stop low W V h hs (canon rh) (canon sh) rf sf (if shared = true then 2 else 1)) := st
    have HOLD : Hid (low = none ∨ (∃ OB oc, u33 = .slice (some ⟨OB, 0, .none⟩) nw oc ∧ WordsAt wc OB W ∧ OB ≠ WB)) := hold
    clear st hold ST5
    obtain ⟨s0, s1, s2, s3, s4, s5, s6, _⟩ := ST.out.src.seven
    have m0 := ST.out.sl.cell 0
    simp at m0
    have hVl := ST.out.srcRing.len
    go_upto_region 20 with (go_at_call 7; refine (clone_nw hVl h0 h3 ST.out.sw).mono ?_; rintro _ w6 ⟨SC, scc, rfl, hSC, hO6, hk6⟩; obtain ⟨s0', s1', s2', s3', s4', s5', s6', _⟩ := (ST.out.src.kept hk6 (by simp)).seven; have HO6 : Hid (WordsAt w6 SC V) := hO6; have HK6 : Hid (KeptBut [] wc w6) := hk6; clear hO6 hk6)
    have ka : KeptBut [] w6 (w6.alloc (.cells #[.pointer (some ⟨SL, 0, .none⟩), .int .i32 so, .int .i32 sn, .int .i32 slo, .int .i32 stop, .int .i32 (canon sh), .bool sf] 32)) := (KeptBut.refl _ _).alloc _
    have ST7 : Hid (Start w (w6.alloc (.cells #[.pointer (some ⟨SL, 0, .none⟩), .int .i32 so, .int .i32 sn, .int .i32 slo, .int .i32 stop, .int .i32 (canon sh), .bool sf] 32)) nw R S HB HBs SL SW L WB (rOff % (64 * nw)) o n lo top so sn slo stop low W V h hs (canon rh) (canon sh) rf sf (if shared = true then 2 else 1)) := (ST.out.later HK6.out).later ka
    have BC : Hid (Blk (w6.alloc (.cells #[.pointer (some ⟨SL, 0, .none⟩), .int .i32 so, .int .i32 sn, .int .i32 slo, .int .i32 stop, .int .i32 (canon sh), .bool sf] 32)) w6.heap.size (ringCells (some ⟨SL, 0, .none⟩) so sn slo stop (canon sh) sf) 32) := Blk.new w6 (ringCells (some ⟨SL, 0, .none⟩) so sn slo stop (canon sh) sf) 32
    have HSC : Hid (WordsAt (w6.alloc (.cells #[.pointer (some ⟨SL, 0, .none⟩), .int .i32 so, .int .i32 sn, .int .i32 slo, .int .i32 stop, .int .i32 (canon sh), .bool sf] 32)) SC V) := HO6.out.kept ka (by simp)
    have hCR : w6.heap.size ≠ R := by
      have := ((ST.out.later HK6.out).ring).lt
      omega
    have hSCW : low = none ∨ SC ≠ WB := by
      rcases ST.out.words with ⟨e, _⟩ | ⟨_, _, b, _⟩
      · exact .inl e
      · have := b.lt
        exact .inr (by omega)
    have HSCW : Hid (low = none ∨ SC ≠ WB) := hSCW
    have HOLD7 : Hid (low = none ∨ (∃ OB oc, u33 = .slice (some ⟨OB, 0, .none⟩) nw oc ∧ WordsAt (w6.alloc (.cells #[.pointer (some ⟨SL, 0, .none⟩), .int .i32 so, .int .i32 sn, .int .i32 slo, .int .i32 stop, .int .i32 (canon sh), .bool sf] 32)) OB W ∧ OB ≠ WB)) := by
      rcases HOLD.out with e | ⟨OB, oc, e1, e2, e3⟩
      · exact .inl e
      · exact .inr ⟨OB, oc, e1, (e2.kept HK6.out (by simp)).kept ka (by simp), e3⟩
    clear ST HOLD HO6 HK6 ka s0 s1 s2 s3 s4 s5 s6 s0' s1' s2' s3' s4' s5' s6' m0 hSCW
    generalize w6.alloc (.cells #[.pointer (some ⟨SL, 0, .none⟩), .int .i32 so, .int .i32 sn, .int .i32 slo, .int .i32 stop, .int .i32 (canon sh), .bool sf] 32) = w7 at *
    generalize w6.heap.size = C at *
    go_upto_region 21 with (go_at_call 8; refine (or_law w w7 nw R S SL SW (w.heap.size + 2) w.heap.size (w.heap.size + 1) L WB o n lo top so sn slo stop low W V h hs (canon rh) (canon sh) rf sf shared h0 h3 ST7.out.kept ST7.out.pool ST7.out.ring ST7.out.src ST7.out.ne ST7.out.sl ST7.out.sw ST7.out.srcRing ST7.out.newR (ST7.out.words.imp id (fun ⟨e1, e2, e3, e4, e5, e6, e7, e8, _⟩ => ⟨e1, e2, e3, e4, e5, e6, e7, e8⟩))).mono ?_; rintro _ w8 ⟨rfl, haft⟩; have AF : Hid (After nw R L WB low o W shared sn (fun c => h c || hs c) (newHi (canon rh) (canon sh)) (rf || sf) w w7 w8) := haft; clear haft)
    have hkeep : ∀ g cells t, Blk w7 g cells t → g ≠ R → t ≠ 41 → t ≠ 39 → Blk w8 g cells t := fun g cells t hb hg h41 h39 => AF.out.keep g cells t hb hg (by
      rcases ST7.out.words with ⟨e, _⟩ | ⟨_, b1, b2, _⟩
      · exact .inl e
      · exact .inr ⟨hb.apart b1 h41, hb.apart b2 h39⟩)
    have hkeepW : ∀ g V, WordsAt w7 g V → (low = none ∨ g ≠ WB) → WordsAt w8 g V := fun g V ⟨cur, hb, ht⟩ hg => ⟨cur, AF.out.keep g cur 39 hb (hb.apart ST7.out.ring (by decide)) (by
      rcases ST7.out.words with ⟨e, _⟩ | ⟨_, b1, b2, _⟩
      · exact .inl e
      · rcases hg with e | hg
        · exact .inl e
        · exact .inr ⟨hb.apart b1 (by decide), hg⟩), ht⟩
    have S8 : Hid (Blk w8 S (ringCells (some ⟨SL, 0, .none⟩) so sn slo stop (canon sh) sf) 32) := hkeep _ _ _ ST7.out.src (Ne.symm ST7.out.ne) (by decide) (by decide)
    have C8 : Hid (Blk w8 C (ringCells (some ⟨SL, 0, .none⟩) so sn slo stop (canon sh) sf) 32) := hkeep _ _ _ BC.out hCR (by decide) (by decide)
    have H8 : Hid (Blk w8 HB (boolCells h (64 * nw)) 4) := hkeep _ _ _ ST7.out.has (ST7.out.has.apart ST7.out.ring (by decide)) (by decide) (by decide)
    have Hs8 : Hid (Blk w8 HBs (boolCells hs (64 * nw)) 4) := hkeep _ _ _ ST7.out.hasS (ST7.out.hasS.apart ST7.out.ring (by decide)) (by decide) (by decide)
    have SL8 : Hid (Blk w8 SL [.slice (some ⟨SW, 0, .none⟩) nw nw, .int .i32 1] 41) := AF.out.keep _ _ _ ST7.out.sl (ST7.out.sl.apart ST7.out.ring (by decide)) (by
      rcases ST7.out.words with ⟨e, _⟩ | ⟨_, b1, b2, _, q, _⟩
      · exact .inl e
      · exact .inr ⟨Ne.symm q, ST7.out.sl.apart b2 (by decide)⟩)
    have SW8 : Hid (Blk w8 SW (wordCells V) 39) := AF.out.keep _ _ _ ST7.out.sw (ST7.out.sw.apart ST7.out.ring (by decide)) (by
      rcases ST7.out.words with ⟨e, _⟩ | ⟨_, b1, b2, _, _, q, _⟩
      · exact .inl e
      · exact .inr ⟨ST7.out.sw.apart b1 (by decide), Ne.symm q⟩)
    have SC8 : Hid (WordsAt w8 SC V) := hkeepW _ _ HSC.out HSCW.out
    have OB8 : Hid (low = none ∨ (∃ OB oc, u33 = .slice (some ⟨OB, 0, .none⟩) nw oc ∧ WordsAt w8 OB W)) := by
      rcases HOLD7.out with e | ⟨OB, oc, e1, e2, e3⟩
      · exact .inl e
      · exact .inr ⟨OB, oc, e1, hkeepW _ _ e2 (.inr e3)⟩
    have hLow : Hid (low = none ∨ (low = some ⟨L, 0, .none⟩ ∧ o = rOff % (64 * nw) ∧ W.length = nw)) := by
      rcases ST7.out.words with ⟨e, _⟩ | ⟨e, _, _, r, _, _, _, _, q⟩
      · exact .inl e
      · exact .inr ⟨e, q, r.len⟩
    have SR : Hid (IsRing nw V so hs sn slo stop) := ST7.out.srcRing
    have hz0 : Hid (h 0 = false) := ST7.out.hz
    have KW : Hid (KeptBut [] w w8) := AF.out.kept
    have AR : Hid _ := AF.out.ring
    clear hkeep hkeepW ST7 BC HSC HSCW HOLD7 AF hCR
    obtain ⟨low', o', n', lo', top', bR8, hring, hoff, hsn0, hshd⟩ := AR.out
    have R8 : Hid (Blk w8 R (ringCells low' o' n' lo' top' (newHi (canon rh) (canon sh)) (rf || sf)) 32) := bR8
    have HRing : Hid _ := hring
    have HOff : Hid _ := hoff
    have HSn : Hid _ := hsn0
    have HShd : Hid _ := hshd
    clear AR bR8 hring hoff hsn0 hshd
    obtain ⟨s0, s1, s2, s3, s4, s5, s6, _⟩ := S8.out.seven
    obtain ⟨c0, c1, c2, c3, c4, c5, c6, _⟩ := C8.out.seven
    have m0 := SL8.out.cell 0
    have m1 := SL8.out.cell 1
    simp at m0 m1
    have hsame := fun w => ring_same w SL so sn slo stop (canon sh) sf
    go_upto_region 23 with (go_at_call 9; refine (equal_nw hVl h3 SW8.out SC8.out).mono ?_; rintro _ _ ⟨rfl, nq, rfl⟩)
    have hca : canon rh < 0 → canon rh = -1 := by unfold canon; split <;> omega
    have hcb : canon sh < 0 → canon sh = -1 := by unfold canon; split <;> omega
    generalize canon rh = ra at *
    generalize canon sh = sa at *
    clear s0 s1 s2 s3 s4 s5 s6 c0 c1 c2 c3 c4 c5 c6 m0 m1 hsame
    obtain ⟨r0, r1, r2, r3, r4, r5, r6, _⟩ := R8.out.seven
    go_upto_block 0 with fail
    go_cut [37] from 48 to 154 (fun v wc => v = .int .i32 (newHi ra sa) ∧ ∃ nq, wc = w8.drewN nq)
    case first =>
      by_cases p1 : ra < 0
      · by_cases p2 : sa < 0
        · have e : newHi ra sa = -1 := by unfold newHi; rw [if_neg (by omega)]; exact hca p1
          have E : Hid (newHi ra sa = -1) := e
          clear e hca hcb
          go_wp2
          go_meet
          case rel => exact ⟨by rw [E.out], _, rfl⟩
        · have e : newHi ra sa = sa := by unfold newHi; rw [if_pos (by omega)]
          have E : Hid (newHi ra sa = sa) := e
          clear e hca hcb
          go_wp2
          go_meet
          case rel => exact ⟨by rw [E.out], _, rfl⟩
      · by_cases p2 : sa < 0
        · have e : newHi ra sa = ra := by unfold newHi; rw [if_neg (by omega)]
          have E : Hid (newHi ra sa = ra) := e
          clear e hca hcb
          go_wp2
          go_meet
          case rel => exact ⟨by rw [E.out], _, rfl⟩
        · by_cases p3 : sa < ra
          · have e : newHi ra sa = sa := by unfold newHi; rw [if_pos (by omega)]
            have E : Hid (newHi ra sa = sa) := e
            clear e hca hcb
            go_wp2
            go_meet
            case rel => exact ⟨by rw [E.out], _, rfl⟩
          · have e : newHi ra sa = ra := by unfold newHi; rw [if_neg (by omega)]
            have E : Hid (newHi ra sa = ra) := e
            clear e hca hcb
            go_wp2
            go_meet
            case rel => exact ⟨by rw [E.out], _, rfl⟩
    case rest =>
      obtain ⟨rfl, nq2, rfl⟩ := hcut
      clear hca hcb
      generalize newHi ra sa = hi at *
      have hne0 : ((hi : Int) != hi) = false := by simp
      go_upto_region 30 with fail
      go_cut [167] from 155 to 167 (fun v wc => v = .bool false ∧ ∃ nq, wc = w8.drewN nq)
      case first =>
        cases rf <;> cases sf <;> (go_wp2; go_meet; exact ⟨rfl, _, rfl⟩)
      case rest =>
        obtain ⟨rfl, nq3, rfl⟩ := hcut
        go_wp2
        go_loopw [38, 39, 40, 41, 42] (fun vn vs vl vt vc wr => ∃ c nq : Nat, 1 ≤ c ∧ c ≤ 64 * nw ∧ vc = .int .i64 c ∧ vn = .int .i64 ((scan (fun c => h c || hs c) (c - 1)).1 : Nat) ∧ vs = .int .i64 ((scan hs (c - 1)).1 : Nat) ∧
          vl = .int .i64 ((scan (fun c => h c || hs c) (c - 1)).2.1 : Nat) ∧ vt = .int .i64 ((scan (fun c => h c || hs c) (c - 1)).2.2 : Nat) ∧ wr = w8.drewN nq) (fun _ _ _ _ vc _ => 64 * nw - (intOf vc).toNat)
        case atStart => exact ⟨1, _, Nat.le_refl _, by omega, rfl, rfl, rfl, rfl, rfl, rfl⟩
        case round =>
          obtain ⟨c, nq4, hc1, hc2, rfl, rfl, rfl, rfl, rfl, rfl⟩ := hrel
          have hcm : c - 1 + 1 = c := by omega
          have hsc1 := scan_le (fun c => h c || hs c) (c - 1)
          have hsc2 := scan_le hs (c - 1)
          by_cases hcl : c < 64 * nw
          · have cH := H8.out.cell c
            rw [boolCells_get _ _ _ hcl] at cH
            have cHs := Hs8.out.cell c
            rw [boolCells_get _ _ _ hcl] at cHs
            have hcI : (c : Int) < 64 * nw := by omega
            have n1 : (h c || hs c) = false → scan (fun c => h c || hs c) (c + 1 - 1) = scan (fun c => h c || hs c) (c - 1) := fun e => by
              have := scan_no (h := fun c => h c || hs c) (m := c - 1) (by rw [hcm]; exact e)
              rw [hcm] at this
              simpa using this
            have y1 : (h c || hs c) = true → scan (fun c => h c || hs c) (c + 1 - 1) = ((scan (fun c => h c || hs c) (c - 1)).1 + 1, (if (scan (fun c => h c || hs c) (c - 1)).1 = 0 then c else (scan (fun c => h c || hs c) (c - 1)).2.1), c) := fun e => by
              have := scan_yes (h := fun c => h c || hs c) (m := c - 1) (by rw [hcm]; exact e)
              rw [hcm] at this
              simpa using this
            have n2 : hs c = false → scan hs (c + 1 - 1) = scan hs (c - 1) := fun e => by
              have := scan_no (h := hs) (m := c - 1) (by rw [hcm]; exact e)
              rw [hcm] at this
              simpa using this
            have y2 : hs c = true → (scan hs (c + 1 - 1)).1 = (scan hs (c - 1)).1 + 1 := fun e => by
              have := scan_yes (h := hs) (m := c - 1) (by rw [hcm]; exact e)
              rw [hcm] at this
              rw [Nat.add_sub_cancel, this]
            have N1 : Hid _ := n1
            have Y1 : Hid _ := y1
            have N2 : Hid _ := n2
            have Y2 : Hid _ := y2
            clear n1 y1 n2 y2 hcm
            cases hb : hs c
            · rw [hb] at cHs
              cases ha : h c
              · rw [ha] at cH
                have E1 : Hid _ := N1.out (by rw [ha, hb]; rfl)
                have E2 : Hid _ := N2.out hb
                clear N1 Y1 N2 Y2
                go_wp2
                go_roundw
                case rel => exact ⟨c + 1, _, by omega, by omega, by go_num, by rw [E1.out], by rw [E2.out], by rw [E1.out], by rw [E1.out], rfl⟩
                case measure => simp [intOf]; omega
              · rw [ha] at cH
                have E1 : Hid _ := Y1.out (by rw [ha]; rfl)
                have E2 : Hid _ := N2.out hb
                clear N1 Y1 N2 Y2
                by_cases hn0 : (scan (fun c => h c || hs c) (c - 1)).1 = 0
                · have hnI : ((scan (fun c => h c || hs c) (c - 1)).1 : Int) = 0 := by omega
                  go_wp2
                  go_roundw
                  case rel => exact ⟨c + 1, _, by omega, by omega, by go_num, by rw [E1.out]; go_num, by rw [E2.out], by rw [E1.out]; simp [hn0], by rw [E1.out], rfl⟩
                  case measure => simp [intOf]; omega
                · have hnI : ((scan (fun c => h c || hs c) (c - 1)).1 : Int) ≠ 0 := by omega
                  go_wp2
                  go_roundw
                  case rel => exact ⟨c + 1, _, by omega, by omega, by go_num, by rw [E1.out]; go_num, by rw [E2.out], by rw [E1.out]; simp [hn0], by rw [E1.out], rfl⟩
                  case measure => simp [intOf]; omega
            · rw [hb] at cHs
              have E1 : Hid _ := Y1.out (by rw [hb]; simp)
              have E2 : Hid _ := Y2.out hb
              clear N1 Y1 N2 Y2
              cases ha : h c
              all_goals
                rw [ha] at cH
                by_cases hn0 : (scan (fun c => h c || hs c) (c - 1)).1 = 0
                · have hnI : ((scan (fun c => h c || hs c) (c - 1)).1 : Int) = 0 := by omega
                  go_wp2
                  go_roundw
                  case rel => exact ⟨c + 1, _, by omega, by omega, by go_num, by rw [E1.out]; go_num, by rw [E2.out]; go_num, by rw [E1.out]; simp [hn0], by rw [E1.out], rfl⟩
                  case measure => simp [intOf]; omega
                · have hnI : ((scan (fun c => h c || hs c) (c - 1)).1 : Int) ≠ 0 := by omega
                  go_wp2
                  go_roundw
                  case rel => exact ⟨c + 1, _, by omega, by omega, by go_num, by rw [E1.out]; go_num, by rw [E2.out]; go_num, by rw [E1.out]; simp [hn0], by rw [E1.out], rfl⟩
                  case measure => simp [intOf]; omega
          · obtain rfl : c = 64 * nw := by omega
            have hcb : ¬ ((64 * nw : Nat) : Int) < 64 * nw := by omega
            go_upto_region 43 with fail
            rw [← SR.out.cnt]
            have HRlen : Hid _ := HRing.out
            go_cut [199] from 155 to 199 (fun v wc => v = .bool (shared && low.isSome) ∧ ∃ nq, wc = w8.drewN nq)
            case first =>
              cases shared
              · go_wp2
                go_meet
                case rel => exact ⟨rfl, _, rfl⟩
              · rcases hLow.out with e | ⟨e, _⟩
                · subst e
                  go_wp2
                  go_meet
                  case rel => exact ⟨rfl, _, rfl⟩
                · subst e
                  go_wp2
                  go_meet
                  case rel => exact ⟨rfl, _, rfl⟩
            case rest =>
              obtain ⟨rfl, nq5, rfl⟩ := hcut
              obtain ⟨b, hb⟩ : ∃ b, b = (shared && low.isSome) := ⟨_, rfl⟩
              rw [← hb]
              have HBB : Hid (b = (shared && low.isSome)) := hb
              clear hb
              go_upto_if 199 with fail
              go_cut [] from 195 to 224 (fun wc => ∃ nq, wc = w8.drewN nq)
              case first =>
                cases b
                · go_wp2
                  go_meet
                  case rel => exact ⟨_, rfl⟩
                · have hsh : shared = true := by
                    have := HBB.out
                    cases shared
                    · cases this
                    · rfl
                  subst hsh
                  rcases hLow.out with e | ⟨e, _, hWl⟩
                  · subst e
                    have := HBB.out
                    cases this
                  · subst e
                    rcases OB8.out with e | ⟨OB, oc, rfl, hOB⟩
                    · cases e
                    obtain ⟨bWB, hs2, hs1⟩ := HShd.out rfl rfl
                    have BWB : Hid (Blk w8 WB (wordCells W) 39) := bWB
                    have HOB : Hid (WordsAt w8 OB W) := hOB
                    clear bWB hOB
                    by_cases hsn : sn = 0
                    · have bL := hs2 hsn
                      have l0 := bL.cell 0
                      have l1 := bL.cell 1
                      simp at l0 l1
                      have hsnI : decide (0 < (sn : Int)) = false := by simp; omega
                      have hsnP : ¬ (0 : Int) < sn := by omega
                      clear hs1 hs2 bL hsn
                      go_wp2_with (go_at_call 9; refine (equal_nw hWl h3 (BWB.out.drewN _) (HOB.out.kept ((KeptBut.refl [] _).drewN _) (by simp))).mono ?_; rintro _ _ ⟨rfl, nq9, rfl⟩)
                      go_meet
                      case rel => exact ⟨_, rfl⟩
                    · obtain ⟨bL, L2, e2, hne2⟩ := hs1 (by omega)
                      subst e2
                      have bL2 : ∃ cells, Blk w8 L2 cells 41 := by
                        rcases HRing.out with ⟨e, _⟩ | ⟨L3, WB3, W3, rf3, e3, b3, _⟩
                        · cases e
                        · have : L2 = L3 := by
                            injection e3 with e4
                            injection e4
                          rw [this]
                          exact ⟨_, b3⟩
                      obtain ⟨cells2, b2⟩ := bL2
                      have heqp : ∀ nq, (binOp .eql 30 (.pointer (some ⟨L2, 0, .none⟩)) (.pointer (some ⟨L, 0, .none⟩))).run Yba.prog (w8.drewN nq) = .ok (.bool false) (w8.drewN nq) := fun nq => ptr_ne (b2.drewN nq) (.inr ⟨L, _, rfl, Ne.symm hne2, bL.drewN nq⟩)
                      have l0 := bL.cell 0
                      have l1 := bL.cell 1
                      simp at l0 l1
                      have hsnI : decide (0 < (sn : Int)) = true := by simp; omega
                      clear hs1 hs2 bL b2
                      go_wp2_with (go_at_call 9; refine (equal_nw hWl h3 (BWB.out.drewN _) (HOB.out.kept ((KeptBut.refl [] _).drewN _) (by simp))).mono ?_; rintro _ _ ⟨rfl, nq9, rfl⟩)
                      all_goals go_meet
                      all_goals exact ⟨_, rfl⟩
              case rest =>
                obtain ⟨nq6, rfl⟩ := hcut
                clear HShd OB8 SC8 S8 C8 SW8 SL8
                by_cases hN : (scan (fun c => h c || hs c) (64 * nw - 1)).1 = 0
                · obtain ⟨e1, e2, e3⟩ := ring_nums HRing.out hN
                  have e4 := HSn.out (by rw [SR.out.cnt]; exact (none_there hN).1)
                  subst e1 e2 e3 e4
                  have hNb : (((scan (fun c => h c || hs c) (64 * nw - 1)).1 : Int) == 0) = true := by simp [hN]
                  have hself : ∀ w, (binOp .eql 30 (.pointer low') (.pointer low')).run Yba.prog w = .ok (.bool true) w := fun w => by
                    cases low' with
                    | none => exact nil_self w
                    | some x => exact ptr_self w x
                  clear hN
                  go_wp2
                  go_ret
                  exact ⟨rfl, KW.out.drewN _⟩
                · obtain ⟨L2, WB2, W2, refs2, e, bL2, bW2, hR2⟩ := ring_some HRing.out (by omega)
                  subst e
                  have hNb : (((scan (fun c => h c || hs c) (64 * nw - 1)).1 : Int) == 0) = false := by simp; omega
                  have BW2 : Hid (Blk w8 WB2 (wordCells W2) 39) := bW2
                  have HR2 : Hid (IsRing nw W2 o' (fun c => h c || hs c) n' lo' top') := hR2
                  have k0 := bL2.cell 0
                  simp at k0
                  have hol := hR2.off
                  have hoI : (o' : Int) < 64 * nw := by omega
                  have d5 : decide ((o' : Int) < 0) = false := by simp
                  have d6 : decide (64 * (nw : Int) ≤ (o' : Int)) = false := by simp; omega
                  have hnwb : ((nw : Int) != nw) = false := by simp
                  have HNp : Hid (0 < n') := by
                    have := hR2.cnt
                    show 0 < n'
                    omega
                  clear bW2 hR2 bL2 hN HRing HSn
                  go_upto_region 55 with fail
                  go_cut [279] from 225 to 279 (fun v wc => v = .bool false ∧ ∃ nq, wc = w8.drewN nq)
                  case first =>
                    rcases hLow.out with e | ⟨e, hoo, _⟩
                    · subst e
                      go_quiet (fail)
                      go_wp2
                      go_meet
                      case rel => exact ⟨rfl, _, rfl⟩
                    · have ho2 : o' = o := by
                        rcases HOff.out with e1 | e1
                        · rw [e] at e1; cases e1
                        · exact e1
                      subst e
                      have hrI : (rOff : Int) % (64 * (nw : Int)) = (o' : Int) := by
                        rw [ho2, hoo, Int.natCast_emod]; simp
                      have hoob : ((o' : Int) != o') = false := by simp
                      clear ho2 hoo
                      go_quiet (fail)
                      go_wp2
                      go_meet
                      case rel => exact ⟨rfl, _, rfl⟩
                  case rest =>
                    obtain ⟨rfl, nq7, rfl⟩ := hcut
                    clear d5 d6 hNb hnwb
                    go_wp2
                    go_loopw [44] (fun v wr => ∃ q nq : Nat, q ≤ 64 * nw ∧ v = .int .i64 q ∧ wr = w8.drewN nq) (fun v _ => 64 * nw - (intOf v).toNat)
                    case atStart => exact ⟨0, _, Nat.zero_le _, rfl, rfl⟩
                    case round =>
                      obtain ⟨q, nq8, hq, rfl, rfl⟩ := hrel
                      by_cases hql : q < 64 * nw
                      · obtain ⟨c, hcI, hcN, hcl⟩ : ∃ c : Nat, ((q : Int) - o' + 64 * nw) % (64 * (nw : Int)) = (c : Int) ∧ c = (q + 64 * nw - o') % (64 * nw) ∧ c < 64 * nw := by
                          refine ⟨(q + 64 * nw - o') % (64 * nw), ?_, rfl, Nat.mod_lt _ (by omega)⟩
                          have e : ((q + 64 * nw - o' : Nat) : Int) = (q : Int) - o' + 64 * nw := by omega
                          rw [Int.natCast_emod, e]
                          simp
                        have hbit := HR2.out.bit q hql
                        rw [← hcN] at hbit
                        unfold bitAt at hbit
                        have hqw : q / 64 < W2.length := by rw [HR2.out.len]; omega
                        have cz := BW2.out.cell (q / 64)
                        rw [wordCells_get W2 _ hqw] at cz
                        have hb1 := and_one (q % 64) (HR2.out.fit (q / 64))
                        rw [hbit] at hb1
                        have cH := H8.out.cell c
                        rw [boolCells_get _ _ _ hcl] at cH
                        have cHs := Hs8.out.cell c
                        rw [boolCells_get _ _ _ hcl] at cHs
                        have hu0 : (h 0 || hs 0) = false := HR2.out.zero
                        generalize W2.getD (q / 64) 0 = z at *
                        have hqI : (q : Int) < 64 * nw := by omega
                        have hqwI : (q : Int) / 64 < nw := by omega
                        have hcI2 : (c : Int) < 64 * nw := by omega
                        clear hbit hcN hqw
                        by_cases hc0 : c = 0
                        · subst hc0
                          rw [hu0] at hb1
                          clear hu0
                          go_wp2
                          go_roundw
                          case rel => exact ⟨q + 1, _, by omega, by go_num, rfl⟩
                          case measure => simp [intOf]; omega
                        · have hc0b : ((c : Int) != 0) = true := by simp; omega
                          clear hu0
                          cases ha : h c
                          · cases hb : hs c
                            · rw [ha, hb] at hb1
                              rw [ha] at cH
                              rw [hb] at cHs
                              go_wp2
                              go_roundw
                              case rel => exact ⟨q + 1, _, by omega, by go_num, rfl⟩
                              case measure => simp [intOf]; omega
                            · rw [ha, hb] at hb1
                              rw [ha] at cH
                              rw [hb] at cHs
                              go_wp2
                              go_roundw
                              case rel => exact ⟨q + 1, _, by omega, by go_num, rfl⟩
                              case measure => simp [intOf]; omega
                          · rw [ha] at hb1 cH
                            go_wp2
                            go_roundw
                            case rel => exact ⟨q + 1, _, by omega, by go_num, rfl⟩
                            case measure => simp [intOf]; omega
                      · obtain rfl : q = 64 * nw := by omega
                        have hqb : ¬ ((64 * nw : Nat) : Int) < 64 * nw := by omega
                        have en := HR2.out.cnt
                        obtain ⟨el, et⟩ := HR2.out.some HNp.out
                        obtain ⟨_, b1, b2, b3⟩ := HR2.out.range HNp.out
                        have b4 : (top' : Int) < 192 := by omega
                        have b5 : (lo' : Int) < 192 := by omega
                        have b6 : (n' : Int) < 192 := by omega
                        have t1 : ((n' : Int) == ((scan (fun c => h c || hs c) (64 * nw - 1)).1 : Int)) = true := by simp; omega
                        have t2 : ((lo' : Int) == ((scan (fun c => h c || hs c) (64 * nw - 1)).2.1 : Int)) = true := by simp; omega
                        have t3 : ((top' : Int) == ((scan (fun c => h c || hs c) (64 * nw - 1)).2.2 : Int)) = true := by simp; omega
                        clear en el et
                        go_wp2
                        go_ret
                        exact ⟨rfl, KW.out.drewN _⟩

end Go.Proofs.Ybulkddhs
