import Derived.Test.YbulkddhsLawOr
namespace Go.Proofs.Ybulkddhs
open Go.RowKit

theorem IsRing.congr {nw : Nat} {W : List Nat} {o : Nat} {h u : Nat → Bool} {n lo top : Nat} (hr : IsRing nw W o h n lo top) (hu : ∀ c, c < 64 * nw → u c = h c) : IsRing nw W o u n lo top := by
  have hp : 0 < 64 * nw := Nat.lt_of_le_of_lt (Nat.zero_le _) hr.off
  have e : scan u (64 * nw - 1) = scan h (64 * nw - 1) := scan_congr _ fun c _ h2 => hu c (by omega)
  exact ⟨hr.len, hr.fit, hr.off, fun p hp' => by rw [hu _ (Nat.mod_lt _ hp)]; exact hr.bit p hp', by rw [hu 0 hp]; exact hr.zero, by rw [e]; exact hr.cnt, hr.none, by rw [e]; exact hr.some⟩

theorem IsRing.all_no {nw : Nat} {W : List Nat} {o : Nat} {h : Nat → Bool} {n lo top : Nat} (hr : IsRing nw W o h n lo top) (hn : n = 0) (c : Nat) (hc : c < 64 * nw) : h c = false := by
  cases hh : h c
  · rfl
  · have := (hr.between c hc hh).1
    omega

/-- A ring without words. -/
theorem ring_zero {nw : Nat} {h : Nat → Bool} (h0 : 0 < nw) (hh : ∀ c, h c = false) : IsRing nw (List.replicate nw 0) 0 h 0 1 0 := by
  have e : scan h (64 * nw - 1) = scan (fun _ => false) (64 * nw - 1) := scan_congr _ fun c _ _ => hh c
  have z : ∀ m, scan (fun _ => false) m = (0, 0, 0) := fun m => by
    induction m with
    | zero => rfl
    | succ m ih => rw [scan_no rfl, ih]
  refine ⟨by simp, fit_none nw, by omega, fun p hp => ?_, hh 0, by rw [e, z], fun _ => ⟨rfl, rfl⟩, fun h => by omega⟩
  rw [bits_none (o := 0) (hh 0) p hp, hh]
  rfl

/-- What or leaves. -/
structure After (nw R L WB : Nat) (low : Option Addr) (o : Nat) (W : List Nat) (shared : Bool) (sn : Nat) (u : Nat → Bool) (hi : Int) (first : Bool) (w wx w' : World) : Prop where
  kept : KeptBut [] w w'
  keep : ∀ g cells t, Blk wx g cells t → g ≠ R → (low = none ∨ (g ≠ L ∧ g ≠ WB)) → Blk w' g cells t
  ring : ∃ low' o' n' lo' top', Blk w' R (ringCells low' o' n' lo' top' hi first) 32 ∧
    ((low' = none ∧ n' = 0 ∧ lo' = 1 ∧ top' = 0 ∧ (∀ c, c < 64 * nw → u c = false)) ∨
      ∃ L' WB' W' refs, low' = some ⟨L', 0, .none⟩ ∧ Blk w' L' [.slice (some ⟨WB', 0, .none⟩) nw nw, .int .i32 refs] 41 ∧ Blk w' WB' (wordCells W') 39 ∧ IsRing nw W' o' u n' lo' top') ∧
    (low = none ∨ o' = o) ∧ (sn = 0 → low' = low) ∧
    (low = some ⟨L, 0, .none⟩ → shared = true → Blk w' WB (wordCells W) 39 ∧ (sn = 0 → Blk w' L [.slice (some ⟨WB, 0, .none⟩) nw nw, .int .i32 2] 41) ∧
      (0 < sn → Blk w' L [.slice (some ⟨WB, 0, .none⟩) nw nw, .int .i32 1] 41 ∧ ∃ L', low' = some ⟨L', 0, .none⟩ ∧ L' ≠ L))

theorem KeptBut.open {bs : List Nat} {w wx w' : World} (h1 : KeptBut [] w wx) (h2 : KeptBut bs wx w') (hn : ∀ k, k ∈ bs → w.heap.size ≤ k) : KeptBut [] w w' :=
  ⟨h2.os.trans h1.os, h2.output.trans h1.output, Nat.le_trans h1.size h2.size, fun k hk _ => (h2.block k (Nat.lt_of_lt_of_le hk h1.size) (fun hm => by have := hn k hm; omega)).trans (h1.block k hk (by simp))⟩
theorem KeptBut.join {bs cs : List Nat} {w w' w'' : World} (h1 : KeptBut bs w w') (h2 : KeptBut cs w' w'') : KeptBut (bs ++ cs) w w'' :=
  (h1.mono fun _ _ hk => List.mem_append_left _ hk).trans (h2.mono fun _ _ hk => List.mem_append_right _ hk)

set_option maxHeartbeats 1000000 in
theorem or_law (w wx : World) (nw R S SL SW PB RB FB L WB o n lo top so sn slo stop : Nat) (low : Option Addr) (W V : List Nat) (h hs : Nat → Bool) (rh sh : Int) (rf sf shared : Bool) (h0 : 0 < nw) (h3 : nw ≤ 3)
    (hk : KeptBut [] w wx) (hp : Pool wx PB RB FB nw) (hR : Blk wx R (ringCells low o n lo top rh rf) 32) (hS : Blk wx S (ringCells (some ⟨SL, 0, .none⟩) so sn slo stop sh sf) 32) (hRS : R ≠ S)
    (hSL : Blk wx SL [.slice (some ⟨SW, 0, .none⟩) nw nw, .int .i32 1] 41) (hSW : Blk wx SW (wordCells V) 39) (hV : IsRing nw V so hs sn slo stop) (hRn : w.heap.size ≤ R)
    (hlow : (low = none ∧ o = 0 ∧ n = 0 ∧ lo = 1 ∧ top = 0 ∧ (∀ c, h c = false)) ∨
      (low = some ⟨L, 0, .none⟩ ∧ Blk wx L [.slice (some ⟨WB, 0, .none⟩) nw nw, .int .i32 (if shared = true then 2 else 1)] 41 ∧ Blk wx WB (wordCells W) 39 ∧ IsRing nw W o h n lo top ∧ L ≠ SL ∧ WB ≠ SW ∧ w.heap.size ≤ L ∧ w.heap.size ≤ WB)) :
    Calls Yba.prog 8 #[.pointer (some ⟨R, 0, .none⟩), .pointer (some ⟨PB, 0, .none⟩), .int .u32 0, .pointer (some ⟨S, 0, .none⟩)] wx fun e w' => e = .returned (.tuple #[]) ∧
      After nw R L WB low o W shared sn (fun c => h c || hs c) (newHi rh sh) (rf || sf) w wx w' := by
  have hSLR : SL ≠ R := fun e => by subst e; have := (hSL.uniq hR).2; revert this; decide
  have hSWR : SW ≠ R := fun e => by subst e; have := (hSW.uniq hR).2; revert this; decide
  have hPR : PB ≠ R := fun e => by subst e; have := (hp.pool.uniq hR).2; revert this; decide
  have hRR : RB ≠ R := fun e => by subst e; have := (hp.reg.uniq hR).2; revert this; decide
  have hFR : FB ≠ R := fun e => by subst e; have := (hp.free.uniq hR).2; revert this; decide
  have hRlt := hR.lt
  rcases hlow with ⟨rfl, rfl, rfl, rfl, rfl, hh⟩ | ⟨rfl, hL, hW, hr, hne, hWne, hLn, hWn⟩
  · -- no words yet
    refine (or_any wx PB R S SL SW nw 0 0 1 0 so sn slo stop none V h hs rh sh rf sf (fun L' WB' o' w2 => KeptBut [R] wx w2 ∧ wx.heap.size ≤ L' ∧ wx.heap.size ≤ WB') h0 h3 hR hS hRS hSL (.inl rfl) hV ?_).mono ?_
    · intro _ w1 b1 k1
      have hp1 : Pool w1 PB RB FB nw := ⟨hp.pool.kept k1 (by simpa using hPR), hp.reg.kept k1 (by simpa using hRR), hp.free.kept k1 (by simpa using hFR)⟩
      refine (own_new w1 PB RB FB R nw (newHi rh sh) (rf || sf) h0 h3 hp1 b1).mono ?_
      rintro e w2 ⟨rfl, c1, c2, c3, k2⟩
      have hs1 := k1.size
      have k12 := k1.trans k2
      refine ⟨rfl, w1.heap.size + 1, w1.heap.size, _, 0, 0, 1, 0, c1, c2, c3, ring_zero h0 hh, ⟨k12, by omega, by omega⟩, hS.kept k12 (by simpa using Ne.symm hRS), hSL.kept k12 (by simpa using hSLR), hSW.kept k12 (by simpa using hSWR), ?_⟩
      have := hSW.lt
      omega
    · rintro e w' ⟨rfl, ⟨hs0, b, k⟩ | ⟨hs0, L', WB', o', w2, W', n', lo', top', ⟨k2, l1, l2⟩, k3, b, bL, bW, hI⟩⟩
      · refine ⟨rfl, hk.open k (by simpa using hRn), fun g cells t hg hgR _ => hg.kept k (by simpa using hgR), none, 0, 0, 1, 0, b, .inl ⟨rfl, rfl, rfl, rfl, fun c hc => ?_⟩, .inl rfl, fun _ => rfl, fun e => by cases e⟩
        simp [hh c, hV.all_no hs0 c hc]
      · have kj := k2.join k3
        refine ⟨rfl, hk.open kj ?_, fun g cells t hg hgR _ => hg.kept kj ?_, some ⟨L', 0, .none⟩, o', n', lo', top', b, .inr ⟨L', WB', W', 1, rfl, bL, bW, hI⟩, .inl rfl, fun e => by omega, fun e => by cases e⟩
        · have := hk.size
          intro k hm
          simp at hm
          rcases hm with rfl | rfl | rfl <;> omega
        · have := hg.lt
          simp
          omega
  · have hLR : L ≠ R := fun e => by subst e; have := (hL.uniq hR).2; revert this; decide
    have hWR : WB ≠ R := fun e => by subst e; have := (hW.uniq hR).2; revert this; decide
    have hLW : L ≠ WB := fun e => by subst e; have := (hL.uniq hW).2; revert this; decide
    have hOther : Other wx (some ⟨L, 0, .none⟩) SL := .inr ⟨L, _, rfl, hne, hL⟩
    cases shared with
    | false =>
      refine (or_any wx PB R S SL SW nw o n lo top so sn slo stop (some ⟨L, 0, .none⟩) V h hs rh sh rf sf (fun L' WB' o' w2 => KeptBut [R] wx w2 ∧ L' = L ∧ WB' = WB ∧ o' = o) h0 h3 hR hS hRS hSL hOther hV ?_).mono ?_
      · intro _ w1 b1 k1
        have hL1 : Blk w1 L [.slice (some ⟨WB, 0, .none⟩) nw nw, .int .i32 1] 41 := hL.kept k1 (by simpa using hLR)
        refine (own_alone w1 PB R L WB nw o n lo top (newHi rh sh) (rf || sf) b1 hL1).mono ?_
        rintro e w2 ⟨rfl, rfl⟩
        exact ⟨rfl, L, WB, W, o, n, lo, top, b1, hL1, hW.kept k1 (by simpa using hWR), hr, ⟨k1, rfl, rfl, rfl⟩, hS.kept k1 (by simpa using Ne.symm hRS), hSL.kept k1 (by simpa using hSLR), hSW.kept k1 (by simpa using hSWR), hWne⟩
      · rintro e w' ⟨rfl, ⟨hs0, b, k⟩ | ⟨hs0, L', WB', o', w2, W', n', lo', top', ⟨k2, rfl, rfl, rfl⟩, k3, b, bL, bW, hI⟩⟩
        · refine ⟨rfl, hk.open k (by simpa using hRn), fun g cells t hg hgR _ => hg.kept k (by simpa using hgR), some ⟨L, 0, .none⟩, o, n, lo, top, b, .inr ⟨L, WB, W, 1, rfl, hL.kept k (by simpa using hLR), hW.kept k (by simpa using hWR), hr.congr fun c hc => ?_⟩, .inr rfl, fun _ => rfl, fun _ e => by cases e⟩
          simp [hV.all_no hs0 c hc]
        · have kj := k2.join k3
          refine ⟨rfl, hk.open kj ?_, fun g cells t hg hgR hgL => hg.kept kj ?_, some ⟨L', 0, .none⟩, o', n', lo', top', b, .inr ⟨L', WB', W', 1, rfl, bL, bW, hI⟩, .inr rfl, fun e => by omega, fun _ e => by cases e⟩
          · intro k hm
            simp at hm
            rcases hm with rfl | rfl | rfl <;> assumption
          · rcases hgL with e | ⟨_, e⟩
            · cases e
            · simp [hgR, e]
    | true =>
      refine (or_any wx PB R S SL SW nw o n lo top so sn slo stop (some ⟨L, 0, .none⟩) V h hs rh sh rf sf (fun L' WB' o' w2 => KeptBut [R, L] wx w2 ∧ wx.heap.size ≤ L' ∧ wx.heap.size ≤ WB' ∧ o' = o ∧ Blk w2 L [.slice (some ⟨WB, 0, .none⟩) nw nw, .int .i32 1] 41) h0 h3 hR hS hRS hSL hOther hV ?_).mono ?_
      · intro _ w1 b1 k1
        have hL1 : Blk w1 L [.slice (some ⟨WB, 0, .none⟩) nw nw, .int .i32 2] 41 := hL.kept k1 (by simpa using hLR)
        have hp1 : Pool w1 PB RB FB nw := ⟨hp.pool.kept k1 (by simpa using hPR), hp.reg.kept k1 (by simpa using hRR), hp.free.kept k1 (by simpa using hFR)⟩
        refine (own_shared w1 PB RB FB R L WB nw o n lo top W h (newHi rh sh) (rf || sf) h0 h3 hp1 b1 hL1 (hW.kept k1 (by simpa using hWR)) hr).mono ?_
        rintro e w2 ⟨rfl, c1, c2, c3, c4, c5, k2⟩
        have hs1 := k1.size
        have k12 : KeptBut [R, L] wx w2 := (k1.mono fun k _ hm => by simp at hm; simp [hm]).trans k2
        have hSLt : S ≠ L := fun e => by subst e; have := (hS.uniq hL).2; revert this; decide
        have hSWL : SW ≠ L := fun e => by subst e; have := (hSW.uniq hL).2; revert this; decide
        refine ⟨rfl, w1.heap.size + 1, w1.heap.size, W, o, n, lo, top, c1, c2, c3, hr, ⟨k12, by omega, by omega, rfl, c4⟩, hS.kept k12 (by simp [Ne.symm hRS, hSLt]), hSL.kept k12 (by simp [hSLR, Ne.symm hne]), hSW.kept k12 (by simp [hSWR, hSWL]), ?_⟩
        have := hSW.lt
        omega
      · rintro e w' ⟨rfl, ⟨hs0, b, k⟩ | ⟨hs0, L', WB', o', w2, W', n', lo', top', ⟨k2, l1, l2, rfl, bL2⟩, k3, b, bL, bW, hI⟩⟩
        · refine ⟨rfl, hk.open k (by simpa using hRn), fun g cells t hg hgR _ => hg.kept k (by simpa using hgR), some ⟨L, 0, .none⟩, o, n, lo, top, b, .inr ⟨L, WB, W, 2, rfl, hL.kept k (by simpa using hLR), hW.kept k (by simpa using hWR), hr.congr fun c hc => ?_⟩, .inr rfl, fun _ => rfl, fun _ _ => ⟨hW.kept k (by simpa using hWR), fun _ => hL.kept k (by simpa using hLR), fun e => by omega⟩⟩
          simp [hV.all_no hs0 c hc]
        · have kj := k2.join k3
          have hLlt := hL.lt
          have hWlt := hW.lt
          refine ⟨rfl, hk.open kj ?_, fun g cells t hg hgR hgL => hg.kept kj ?_, some ⟨L', 0, .none⟩, o', n', lo', top', b, .inr ⟨L', WB', W', 1, rfl, bL, bW, hI⟩, .inr rfl, fun e => by omega, fun _ _ => ⟨hW.kept kj ?_, fun e => by omega, fun _ => ⟨bL2.kept k3 ?_, L', rfl, by omega⟩⟩⟩
          · have := hk.size
            intro k hm
            simp at hm
            rcases hm with rfl | rfl | rfl | rfl <;> omega
          · have := hg.lt
            rcases hgL with e | ⟨e1, e2⟩
            · cases e
            · simp [hgR, e1]; omega
          · simp [hWR, Ne.symm hLW]; omega
          · simp [hLR]; omega

end Go.Proofs.Ybulkddhs
