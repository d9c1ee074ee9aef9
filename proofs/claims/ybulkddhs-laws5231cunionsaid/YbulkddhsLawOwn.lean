import Derived.Test.YbulkddhsLawPlain
namespace Go.Proofs.Ybulkddhs
open Go.RowKit

/-- The pool of one region. -/
structure Pool (w : World) (PB RB FB nw : Nat) : Prop where
  pool : Blk w PB [.slice (some ⟨RB, 0, .none⟩) 1 1, .slice (some ⟨FB, 0, .none⟩) 1 1] 49
  reg : Blk w RB [.int .u32 0, .int .i64 (64 * nw + 1), .int .i64 (-1), .int .i64 nw] 28
  free : Blk w FB [.slice .none 0 0] 54

theorem ret_own {Q : Ending → World → Prop} {a : Act} {w : World} (hd : a.defers = []) (hQ : Q (.returned (.tuple #[])) w) : bodyPost Yba.prog Yba.f10 Q .ret a w :=
  bodyPost_ret (v := .tuple #[]) (by simp [results, Yba.results10, go_sem]) hd hQ

theorem end_own {Q : Ending → World → Prop} {a : Act} {w : World} (hd : a.defers = []) (hQ : Q (.returned (.tuple #[])) w) : bodyPost Yba.prog Yba.f10 Q .normal a w :=
  ⟨hd, .tuple #[], by simp [results, Yba.results10, go_sem], hQ⟩

set_option maxHeartbeats 1000000 in
/-- own, where the words are the ring's alone. -/
theorem own_alone (w : World) (PB R L WB nw o n lo top : Nat) (hi : Int) (first : Bool) (hR : Blk w R (ringCells (some ⟨L, 0, .none⟩) o n lo top hi first) 32) (hL : Blk w L [.slice (some ⟨WB, 0, .none⟩) nw nw, .int .i32 1] 41) :
    Calls Yba.prog 10 #[.pointer (some ⟨PB, 0, .none⟩), .int .u32 0, .pointer (some ⟨R, 0, .none⟩)] w fun e w' => e = .returned (.tuple #[]) ∧ w' = w := by
  obtain ⟨r0, r1, r2, r3, r4, r5, r6, f0, f1, f2, f3, f4, f5, f6⟩ := hR.seven
  have l0 := hL.cell 0
  have l1 := hL.cell 1
  simp at l0 l1
  clear hR hL
  go_enter Yba.func10, Yba.ntmps10
  go_wp2
  exact ret_own rfl ⟨rfl, rfl⟩

set_option maxHeartbeats 1000000 in
/-- own, where the ring has no words yet. -/
theorem own_new (w : World) (PB RB FB R nw : Nat) (hi : Int) (first : Bool) (h0 : 0 < nw) (h3 : nw ≤ 3) (hp : Pool w PB RB FB nw) (hR : Blk w R (ringCells .none 0 0 1 0 hi first) 32) :
    Calls Yba.prog 10 #[.pointer (some ⟨PB, 0, .none⟩), .int .u32 0, .pointer (some ⟨R, 0, .none⟩)] w fun e w' => e = .returned (.tuple #[]) ∧
      Blk w' R (ringCells (some ⟨w.heap.size + 1, 0, .none⟩) 0 0 1 0 hi first) 32 ∧ Blk w' (w.heap.size + 1) [.slice (some ⟨w.heap.size, 0, .none⟩) nw nw, .int .i32 1] 41 ∧ Blk w' w.heap.size (wordCells (List.replicate nw 0)) 39 ∧ KeptBut [R] w w' := by
  obtain ⟨r0, r1, r2, r3, r4, r5, r6, f0, f1, f2, f3, f4, f5, f6⟩ := hR.seven
  have hmw : ∀ w, (Instr.makeSlice 37 (.int .i64 (nw : Int)) (.int .i64 (nw : Int))).run Yba.prog w = .ok (.slice (some ⟨w.heap.size, 0, .none⟩) nw nw) (w.alloc (.cells (wordCells (List.replicate nw 0)).toArray 39)) := make_words h0 h3
  have p0 := hp.pool.cell 0
  have p1 := hp.pool.cell 1
  have q3 := hp.reg.cell 3
  have t0 := hp.free.cell 0
  simp at p0 p1 q3 t0
  have hRl := hR.lt
  have HR : Hid (Blk w R (ringCells .none 0 0 1 0 hi first) 32) := hR
  clear hR hp
  go_enter Yba.func10, Yba.ntmps10
  go_wp2
  refine ret_own rfl ⟨rfl, ?_, ?_, ?_, ?_⟩
  · exact ((((((HR.out.set 0 _).set 1 _).set 2 _).set 3 _).set 4 _).alloc _).alloc _
  · have := Blk.new ((((((w.setCell ⟨R, 0, .none⟩ (.pointer (some ⟨w.heap.size + 1, 0, .none⟩))).setCell ⟨R, 1, .none⟩ (.int .i32 0)).setCell ⟨R, 2, .none⟩ (.int .i32 0)).setCell ⟨R, 3, .none⟩ (.int .i32 1)).setCell ⟨R, 4, .none⟩ (.int .i32 0)).alloc (.cells (wordCells (List.replicate nw 0)).toArray 39)) [.slice (some ⟨w.heap.size, 0, .none⟩) nw nw, .int .i32 1] 41
    simpa [World.setCell] using this
  · have := (Blk.new (((((w.setCell ⟨R, 0, .none⟩ (.pointer (some ⟨w.heap.size + 1, 0, .none⟩))).setCell ⟨R, 1, .none⟩ (.int .i32 0)).setCell ⟨R, 2, .none⟩ (.int .i32 0)).setCell ⟨R, 3, .none⟩ (.int .i32 1)).setCell ⟨R, 4, .none⟩ (.int .i32 0)) (wordCells (List.replicate nw 0)) 39).alloc (.cells #[.slice (some ⟨w.heap.size, 0, .none⟩) nw nw, .int .i32 1] 41)
    simpa [World.setCell] using this
  · refine KeptBut.alloc (KeptBut.alloc ?_ _) _
    repeat refine KeptBut.setCell ?_ (.inr (by simp)) _ _
    exact KeptBut.refl _ _

set_option maxHeartbeats 2000000 in
/-- own, where two rings share the words. -/
theorem own_shared (w : World) (PB RB FB R L WB nw o n lo top : Nat) (W : List Nat) (h : Nat → Bool) (hi : Int) (first : Bool) (h0 : 0 < nw) (h3 : nw ≤ 3) (hp : Pool w PB RB FB nw)
    (hR : Blk w R (ringCells (some ⟨L, 0, .none⟩) o n lo top hi first) 32) (hL : Blk w L [.slice (some ⟨WB, 0, .none⟩) nw nw, .int .i32 2] 41) (hW : Blk w WB (wordCells W) 39) (hr : IsRing nw W o h n lo top) :
    Calls Yba.prog 10 #[.pointer (some ⟨PB, 0, .none⟩), .int .u32 0, .pointer (some ⟨R, 0, .none⟩)] w fun e w' => e = .returned (.tuple #[]) ∧
      Blk w' R (ringCells (some ⟨w.heap.size + 1, 0, .none⟩) o n lo top hi first) 32 ∧ Blk w' (w.heap.size + 1) [.slice (some ⟨w.heap.size, 0, .none⟩) nw nw, .int .i32 1] 41 ∧ Blk w' w.heap.size (wordCells W) 39 ∧
      Blk w' L [.slice (some ⟨WB, 0, .none⟩) nw nw, .int .i32 1] 41 ∧ Blk w' WB (wordCells W) 39 ∧ KeptBut [R, L] w w' := by
  obtain ⟨r0, r1, r2, r3, r4, r5, r6, f0, f1, f2, f3, f4, f5, f6⟩ := hR.seven
  have hmw : ∀ w, (Instr.makeSlice 37 (.int .i64 (nw : Int)) (.int .i64 (nw : Int))).run Yba.prog w = .ok (.slice (some ⟨w.heap.size, 0, .none⟩) nw nw) (w.alloc (.cells (wordCells (List.replicate nw 0)).toArray 39)) := make_words h0 h3
  have p0 := hp.pool.cell 0
  have p1 := hp.pool.cell 1
  have q3 := hp.reg.cell 3
  have t0 := hp.free.cell 0
  have l0 := hL.cell 0
  have l1 := hL.cell 1
  simp at p0 p1 q3 t0 l0 l1
  have g1 := hL.frozen 1
  have hRl := hR.lt
  have hLl := hL.lt
  have hWl := hW.lt
  have hRL : R ≠ L := fun e => by subst e; have := (hR.uniq hL).2; revert this; decide
  have hRW : R ≠ WB := fun e => by subst e; have := (hR.uniq hW).2; revert this; decide
  have hLW : L ≠ WB := fun e => by subst e; have := (hL.uniq hW).2; revert this; decide
  have HR : Hid (Blk w R (ringCells (some ⟨L, 0, .none⟩) o n lo top hi first) 32) := hR
  have HL : Hid (Blk w L [.slice (some ⟨WB, 0, .none⟩) nw nw, .int .i32 2] 41) := hL
  have HW : Hid (Blk w WB (wordCells W) 39) := hW
  have HI : Hid (IsRing nw W o h n lo top) := hr
  have hol := hr.off
  clear hR hp hL hW hr
  obtain ⟨w1, hw1⟩ : ∃ w1, w1 = (((w.setCell ⟨L, 1, .none⟩ (.int .i32 1)).setCell ⟨R, 0, .none⟩ (.pointer (some ⟨w.heap.size + 1, 0, .none⟩))).alloc (.cells (wordCells (List.replicate nw 0)).toArray 39)).alloc (.cells #[.slice (some ⟨w.heap.size, 0, .none⟩) nw nw, .int .i32 1] 41) := ⟨_, rfl⟩
  have BR : Hid (Blk w1 R (ringCells (some ⟨w.heap.size + 1, 0, .none⟩) o n lo top hi first) 32) := by
    rw [hw1]; exact (((HR.out.other hRL 1 _).set 0 _).alloc _).alloc _
  have BL : Hid (Blk w1 L [.slice (some ⟨WB, 0, .none⟩) nw nw, .int .i32 1] 41) := by
    rw [hw1]; exact (((HL.out.set 1 _).other (Ne.symm hRL) 0 _).alloc _).alloc _
  have BW : Hid (Blk w1 WB (wordCells W) 39) := by
    rw [hw1]; exact (((HW.out.other (Ne.symm hLW) 1 _).other (Ne.symm hRW) 0 _).alloc _).alloc _
  have BN : Hid (Blk w1 (w.heap.size + 1) [.slice (some ⟨w.heap.size, 0, .none⟩) nw nw, .int .i32 1] 41) := by
    rw [hw1]
    have := Blk.new (((w.setCell ⟨L, 1, .none⟩ (.int .i32 1)).setCell ⟨R, 0, .none⟩ (.pointer (some ⟨w.heap.size + 1, 0, .none⟩))).alloc (.cells (wordCells (List.replicate nw 0)).toArray 39)) [.slice (some ⟨w.heap.size, 0, .none⟩) nw nw, .int .i32 1] 41
    show Blk _ _ _ _
    simpa [World.setCell] using this
  have BZ : Hid (Blk w1 w.heap.size (wordCells (List.replicate nw 0)) 39) := by
    rw [hw1]
    have := (Blk.new ((w.setCell ⟨L, 1, .none⟩ (.int .i32 1)).setCell ⟨R, 0, .none⟩ (.pointer (some ⟨w.heap.size + 1, 0, .none⟩))) (wordCells (List.replicate nw 0)) 39).alloc (.cells #[.slice (some ⟨w.heap.size, 0, .none⟩) nw nw, .int .i32 1] 41)
    show Blk _ _ _ _
    simpa [World.setCell] using this
  have BK : Hid (KeptBut [R, L] w w1) := by
    rw [hw1]
    exact ((((KeptBut.refl _ _).setCell (.inr (by simp)) _ _).setCell (.inr (by simp)) _ _).alloc _).alloc _
  have HW1 : Hid (w1 = (((w.setCell ⟨L, 1, .none⟩ (.int .i32 1)).setCell ⟨R, 0, .none⟩ (.pointer (some ⟨w.heap.size + 1, 0, .none⟩))).alloc (.cells (wordCells (List.replicate nw 0)).toArray 39)).alloc (.cells #[.slice (some ⟨w.heap.size, 0, .none⟩) nw nw, .int .i32 1] 41)) := hw1
  clear hw1
  go_enter Yba.func10, Yba.ntmps10
  by_cases hn : n = 0
  · subst hn
    go_wp2
    rw [← HW1.out]
    have hz := HI.out.blank h0
    refine end_own rfl ⟨rfl, BR.out, BN.out, ?_, BL.out, BW.out, BK.out⟩
    rw [← hz]
    exact BZ.out
  · obtain ⟨z1, z2, z3, z4⟩ := HI.out.range (by omega)
    have hnI : 0 < (n : Int) := by omega
    have hj0 : wFirst nw o lo < nw := wFirst_lt hol (by omega)
    have hcn : wCount nw o lo top ≤ nw := wCount_le _ _ _ _
    have HP : Hid (patch (fun _ => 0) (fun i => W.getD i 0) nw (wFirst nw o lo) (wCount nw o lo top) = W) := HI.out.copied h0 h3
    go_wp2_with (go_at_call 11; rw [← HW1.out]; refine (words_any _ R (w.heap.size + 1) w.heap.size nw o lo top h3 hol z2 z3 (BR.out.cell 0) (BR.out.cell 3) (BR.out.cell 4) (BN.out.cell 0)).mono ?_; rintro _ _ ⟨rfl, nq, rfl⟩)
    generalize wFirst nw o lo = j0 at *
    generalize wCount nw o lo top = cn at *
    go_loopw [9, 119] (fun vj vt wr => ∃ k : Nat, k ≤ cn ∧ vt = .int .i64 k ∧ vj = .int .i64 (wIdx nw j0 k : Nat) ∧ Blk wr w.heap.size (wordCells (patch (fun _ => 0) (fun i => W.getD i 0) nw j0 k)) 39 ∧
      Blk wr R (ringCells (some ⟨w.heap.size + 1, 0, .none⟩) o n lo top hi first) 32 ∧ Blk wr (w.heap.size + 1) [.slice (some ⟨w.heap.size, 0, .none⟩) nw nw, .int .i32 1] 41 ∧
      Blk wr L [.slice (some ⟨WB, 0, .none⟩) nw nw, .int .i32 1] 41 ∧ Blk wr WB (wordCells W) 39 ∧ KeptBut [R, L] w wr) (fun _ vt _ => cn - (intOf vt).toNat)
    case atStart =>
      refine ⟨0, Nat.zero_le _, rfl, ?_, ?_, BR.out.drewN _, BN.out.drewN _, BL.out.drewN _, BW.out.drewN _, BK.out.drewN _⟩
      · have : wIdx nw j0 0 = j0 := by unfold wIdx; rw [Nat.add_zero, Nat.mod_eq_of_lt hj0]
        rw [this]
      · rw [patch_zero, range_zero]
        exact BZ.out.drewN _
    case round =>
      obtain ⟨k, hk, rfl, rfl, cZ, cR, cN, cL, cW, cK⟩ := hrel
      by_cases hlt : k < cn
      · have hjs := wIdx_succ (j0 := j0) (t := k) h0 h3
        have hjl : wIdx nw j0 k < nw := wIdx_lt h0
        have hst := patch_step (f := fun _ => 0) (g := fun i => W.getD i 0) h0 h3 hj0 (show k < nw by omega)
        have HWl : W.length = nw := HI.out.len
        have HJ : Hid (wIdx nw j0 (k + 1) = if wIdx nw j0 k + 1 = nw then 0 else wIdx nw j0 k + 1) := hjs
        have c3 := cW.cell (wIdx nw j0 k)
        rw [wordCells_get W _ (by omega)] at c3
        have c4 := cZ.cell (wIdx nw j0 k)
        rw [wordCells_get _ _ (by rw [patch_length]; exact hjl)] at c4
        have hfz := cZ.frozen (wIdx nw j0 k)
        have HS : Hid (Blk (wr.setCell ⟨w.heap.size, wIdx nw j0 k, .none⟩ (.int .u64 (W.getD (wIdx nw j0 k) 0 : Nat))) w.heap.size (wordCells (patch (fun _ => 0) (fun i => W.getD i 0) nw j0 (k + 1))) 39) := by
          have := cZ.set (wIdx nw j0 k) (.int .u64 (W.getD (wIdx nw j0 k) 0 : Nat))
          rw [wordCells_set, hst] at this
          exact this
        have HWj : Hid ((wordCells W)[wIdx nw j0 k]? = some (.int .u64 (W.getD (wIdx nw j0 k) 0 : Nat))) := wordCells_get W _ (by omega)
        clear hjs hst HWl
        generalize wIdx nw j0 k = j at *
        generalize (patch (fun _ => 0) (fun i => W.getD i 0) nw j0 k).getD j 0 = y at *
        generalize W.getD j 0 = z at *
        have CR : Hid (Blk (wr.setCell ⟨w.heap.size, j, .none⟩ (.int .u64 (z : Nat))) R (ringCells (some ⟨w.heap.size + 1, 0, .none⟩) o n lo top hi first) 32) := cR.other (by omega) _ _
        have CN : Hid (Blk (wr.setCell ⟨w.heap.size, j, .none⟩ (.int .u64 (z : Nat))) (w.heap.size + 1) [.slice (some ⟨w.heap.size, 0, .none⟩) nw nw, .int .i32 1] 41) := cN.other (by omega) _ _
        have CL : Hid (Blk (wr.setCell ⟨w.heap.size, j, .none⟩ (.int .u64 (z : Nat))) L [.slice (some ⟨WB, 0, .none⟩) nw nw, .int .i32 1] 41) := cL.other (by omega) _ _
        have CW : Hid (Blk (wr.setCell ⟨w.heap.size, j, .none⟩ (.int .u64 (z : Nat))) WB (wordCells W) 39) := cW.other (by omega) _ _
        have CK : Hid (KeptBut [R, L] w (wr.setCell ⟨w.heap.size, j, .none⟩ (.int .u64 (z : Nat)))) := cK.setCell (.inl (Nat.le_refl _)) _ _
        have d0 := cN.cell 0
        have d1 := cL.cell 0
        have hkeep : Hid ((wr.setCell ⟨w.heap.size, j, .none⟩ (.int .u64 (z : Nat))).drew.cell? ⟨L, 0, .none⟩ = some (.slice (some ⟨WB, 0, .none⟩) nw nw) ∧
            (wr.setCell ⟨w.heap.size, j, .none⟩ (.int .u64 (z : Nat))).drew.cell? ⟨w.heap.size + 1, 0, .none⟩ = some (.slice (some ⟨w.heap.size, 0, .none⟩) nw nw) ∧
            (wr.setCell ⟨w.heap.size, j, .none⟩ (.int .u64 (z : Nat))).drew.cell? ⟨WB, j, .none⟩ = some (.int .u64 (z : Nat))) :=
          ⟨CL.out.drew.cell 0, CN.out.drew.cell 0, (CW.out.drew.cell j).trans HWj.out⟩
        simp at d0 d1
        clear cR cN cL cW cK cZ
        have hkI : (k : Int) < cn := by omega
        have hjI : (j : Int) < nw := by omega
        by_cases hj1 : j + 1 = nw
        · have hj1I : (j : Int) + 1 = nw := by omega
          go_wp2
          go_region_held3 (fun w' => w'.cell? ⟨L, 0, .none⟩ = some (.slice (some ⟨WB, 0, .none⟩) nw nw) ∧ w'.cell? ⟨w.heap.size + 1, 0, .none⟩ = some (.slice (some ⟨w.heap.size, 0, .none⟩) nw nw) ∧ w'.cell? ⟨WB, j, .none⟩ = some (.int .u64 (z : Nat))) (first | exact hkeep.out | go_keep) (fail)
          go_wp2
          go_roundw
          case rel => exact ⟨k + 1, by omega, by go_num, by rw [HJ.out, if_pos hj1]; rfl, HS.out, CR.out, CN.out, CL.out, CW.out, CK.out.drew⟩
          case measure => simp [intOf]; omega
        · have hj1I : ¬ (j : Int) + 1 = nw := by omega
          go_wp2
          go_region_held3 (fun w' => w'.cell? ⟨L, 0, .none⟩ = some (.slice (some ⟨WB, 0, .none⟩) nw nw) ∧ w'.cell? ⟨w.heap.size + 1, 0, .none⟩ = some (.slice (some ⟨w.heap.size, 0, .none⟩) nw nw) ∧ w'.cell? ⟨WB, j, .none⟩ = some (.int .u64 (z : Nat))) (first | exact hkeep.out | go_keep) (fail)
          go_wp2
          go_roundw
          case rel => exact ⟨k + 1, by omega, by go_num, by rw [HJ.out, if_neg hj1]; go_num, HS.out, CR.out, CN.out, CL.out, CW.out, CK.out.drew⟩
          case measure => simp [intOf]; omega
      · obtain rfl : k = cn := by omega
        go_wp2
        refine end_own rfl ⟨rfl, cR, cN, ?_, cL, cW, cK⟩
        rw [HP.out] at cZ
        exact cZ

end Go.Proofs.Ybulkddhs
