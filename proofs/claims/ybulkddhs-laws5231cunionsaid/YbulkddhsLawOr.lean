import Derived.Test.YbulkddhsLawOwn
import Derived.Test.YbulkddhsLawUnion
import Derived.Test.YbulkddhsLawOnes
import Derived.Deep.CutRange
import Derived.BigRegion
import Derived.LaidEqlPtr
import Derived.Deep.DeepCutAuto
namespace Go.Proofs.Ybulkddhs
open Go.RowKit

/-- The least of the two, or the one that is there. -/
def newHi (rh sh : Int) : Int := if 0 ≤ sh ∧ (rh < 0 ∨ sh < rh) then sh else rh

theorem ret_or {Q : Ending → World → Prop} {a : Act} {w : World} (hd : a.defers = []) (hQ : Q (.returned (.tuple #[])) w) : bodyPost Yba.prog Yba.f8 Q .ret a w :=
  bodyPost_ret (v := .tuple #[]) (by simp [results, Yba.results8, go_sem]) hd hQ
theorem end_or {Q : Ending → World → Prop} {a : Act} {w : World} (hd : a.defers = []) (hQ : Q (.returned (.tuple #[])) w) : bodyPost Yba.prog Yba.f8 Q .normal a w :=
  ⟨hd, .tuple #[], by simp [results, Yba.results8, go_sem], hQ⟩

/-- Where own has come to: the ring has words of its own, that hold h; the other ring is as it was. -/
def OwnEnd (nw R S SL SW : Nat) (scells : List Value) (V : List Nat) (h : Nat → Bool) (hi : Int) (first : Bool) (P : Nat → Nat → Nat → World → Prop) (e : Ending) (w : World) : Prop :=
  e = .returned (.tuple #[]) ∧ ∃ L WB W o n lo top, Blk w R (ringCells (some ⟨L, 0, .none⟩) o n lo top hi first) 32 ∧ Blk w L [.slice (some ⟨WB, 0, .none⟩) nw nw, .int .i32 1] 41 ∧ Blk w WB (wordCells W) 39 ∧ IsRing nw W o h n lo top ∧
    P L WB o w ∧ Blk w S scells 32 ∧ Blk w SL [.slice (some ⟨SW, 0, .none⟩) nw nw, .int .i32 1] 41 ∧ Blk w SW (wordCells V) 39 ∧ WB ≠ SW

def OrEnd (nw R : Nat) (h : Nat → Bool) (hi : Int) (first : Bool) (P : Nat → Nat → Nat → World → Prop) (w : World) : Prop :=
  ∃ L WB o w2 W n lo top, P L WB o w2 ∧ KeptBut [R, WB] w2 w ∧ Blk w R (ringCells (some ⟨L, 0, .none⟩) o n lo top hi first) 32 ∧ Blk w L [.slice (some ⟨WB, 0, .none⟩) nw nw, .int .i32 1] 41 ∧ Blk w WB (wordCells W) 39 ∧ IsRing nw W o h n lo top

theorem or_shift {z1 z2 : Nat} (s : Nat) (h1 : z1 < 18446744073709551616) : bits .or .u64 ((z1 : Int) / 2 ^ s) (IntKind.u64.wrap ((z2 : Int) * 2 ^ (64 - s))) = ((z1 / 2 ^ s ||| z2 * 2 ^ (64 - s) % 2 ^ 64 : Nat) : Int) := by
  have e1 : (z1 : Int) / 2 ^ s = ((z1 / 2 ^ s : Nat) : Int) := by simp
  have e2 : IntKind.u64.wrap ((z2 : Int) * 2 ^ (64 - s)) = ((z2 * 2 ^ (64 - s) % 2 ^ 64 : Nat) : Int) := by
    have : (z2 : Int) * 2 ^ (64 - s) = ((z2 * 2 ^ (64 - s) : Nat) : Int) := by simp
    rw [this, IntKind.wrap_u64]
    omega
  rw [e1, e2]
  exact u64_or_nat _ _ (fit_div s h1) (Nat.mod_lt _ (by decide))

theorem wrap_small {N p : Nat} (h1 : N ≤ 384) (h2 : p ≤ 64) : IntKind.i32.wrap ((N : Int) + IntKind.i32.wrap (p : Int)) = (N : Int) + (p : Int) := by
  rw [IntKind.wrap_i32, IntKind.wrap_i32]; omega

theorem min_int (a b : Nat) : (if b < a then (b : Int) else (a : Int)) = ((min a b : Nat) : Int) := by split <;> omega
theorem max_int (a b : Nat) : (if a < b then (b : Int) else (a : Int)) = ((max a b : Nat) : Int) := by split <;> omega

/-- No words, or others than those at x. -/
def Other (w : World) (low : Option Addr) (SL : Nat) : Prop := low = none ∨ ∃ L cells, low = some ⟨L, 0, .none⟩ ∧ L ≠ SL ∧ Blk w L cells 41

theorem info41 : (Yba.prog.info? 41).map (fun i => (i.zero.isSome, i.size)) = some (true, 2) := by kernel_rfl
theorem info41' : ∃ j, Yba.prog.info? 41 = some j ∧ j.size = 2 := by
  have := info41
  cases h : Yba.prog.info? 41 with
  | none => rw [h] at this; cases this
  | some j => rw [h] at this; simp at this; exact ⟨j, rfl, this.2⟩

theorem ptr_ne {w : World} {low : Option Addr} {SL : Nat} {cells : List Value} (hS : Blk w SL cells 41) (h : Other w low SL) : (binOp .eql 30 (.pointer (some ⟨SL, 0, .none⟩)) (.pointer low)).run Yba.prog w = .ok (.bool false) w := by
  obtain ⟨j, hj, hz⟩ := info41'
  rcases h with rfl | ⟨L, cs, rfl, hne, hL⟩
  · have h : ∀ d : Nat, (Op.equalIn (d + 1) 30 (.pointer (some ⟨SL, 0, .none⟩)) (.pointer none)).run Yba.prog w = .ok false w := fun d => by
      simp [Op.equalIn, run_underlying Yba.underlying30]
    simp only [binOp]
    simp [Op.equal, Op.maxDepth, h 9999]
  · have hne' : (⟨SL, 0, .none⟩ : Addr) ≠ ⟨L, 0, .none⟩ := fun e => by
      injection e with e1
      exact hne e1.symm
    exact run_eql_ptr_other w Yba.underlying30 hj (by omega) hne' hS hL

set_option maxRecDepth 100000 in
set_option maxHeartbeats 4000000 in
theorem or_any (w : World) (PB R S SL SW nw o n lo top so sn slo stop : Nat) (low : Option Addr) (V : List Nat) (h hs : Nat → Bool) (rh sh : Int) (rf sf : Bool) (P : Nat → Nat → Nat → World → Prop) (h0 : 0 < nw) (h3 : nw ≤ 3)
    (hR : Blk w R (ringCells low o n lo top rh rf) 32) (hS : Blk w S (ringCells (some ⟨SL, 0, .none⟩) so sn slo stop sh sf) 32) (hRS : R ≠ S) (hSL : Blk w SL [.slice (some ⟨SW, 0, .none⟩) nw nw, .int .i32 1] 41) (hlow : Other w low SL) (hV : IsRing nw V so hs sn slo stop)
    (hown : 0 < sn → ∀ w1, Blk w1 R (ringCells low o n lo top (newHi rh sh) (rf || sf)) 32 → KeptBut [R] w w1 →
      Calls Yba.prog 10 #[.pointer (some ⟨PB, 0, .none⟩), .int .u32 0, .pointer (some ⟨R, 0, .none⟩)] w1 (OwnEnd nw R S SL SW (ringCells (some ⟨SL, 0, .none⟩) so sn slo stop sh sf) V h (newHi rh sh) (rf || sf) P)) :
    Calls Yba.prog 8 #[.pointer (some ⟨R, 0, .none⟩), .pointer (some ⟨PB, 0, .none⟩), .int .u32 0, .pointer (some ⟨S, 0, .none⟩)] w fun e w' => e = .returned (.tuple #[]) ∧
      ((sn = 0 ∧ Blk w' R (ringCells low o n lo top (newHi rh sh) (rf || sf)) 32 ∧ KeptBut [R] w w') ∨ (0 < sn ∧ OrEnd nw R (fun c => h c || hs c) (newHi rh sh) (rf || sf) P w')) := by
  obtain ⟨r0, r1, r2, r3, r4, r5, r6, f0, f1, f2, f3, f4, f5, f6⟩ := hR.seven
  obtain ⟨s0, s1, s2, s3, s4, s5, s6, _⟩ := hS.seven
  have HR : Hid (Blk w R (ringCells low o n lo top rh rf) 32) := hR
  have HS : Hid (Blk w S (ringCells (some ⟨SL, 0, .none⟩) so sn slo stop sh sf) 32) := hS
  have HV : Hid (IsRing nw V so hs sn slo stop) := hV
  have HO : Hid (0 < sn → ∀ w1, Blk w1 R (ringCells low o n lo top (newHi rh sh) (rf || sf)) 32 → KeptBut [R] w w1 →
      Calls Yba.prog 10 #[.pointer (some ⟨PB, 0, .none⟩), .int .u32 0, .pointer (some ⟨R, 0, .none⟩)] w1 (OwnEnd nw R S SL SW (ringCells (some ⟨SL, 0, .none⟩) so sn slo stop sh sf) V h (newHi rh sh) (rf || sf) P)) := hown
  have hRSL : SL ≠ R := fun e => by subst e; have := (hSL.uniq hR).2; revert this; decide
  have HLow : Hid (∀ wz, KeptBut [R] w wz → Blk wz SL [.slice (some ⟨SW, 0, .none⟩) nw nw, .int .i32 1] 41 ∧ Other wz low SL) := fun wz hk => by
    refine ⟨hSL.kept hk (by simpa using hRSL), ?_⟩
    rcases hlow with h | ⟨L, cs, h1, h2, h3⟩
    · exact .inl h
    · refine .inr ⟨L, cs, h1, h2, h3.kept hk ?_⟩
      have : L ≠ R := fun e => by subst e; have := (h3.uniq hR).2; revert this; decide
      simpa using this
  clear hR hS hV hown hSL hlow
  go_enter Yba.func8, Yba.ntmps8
  go_upto_region 0 with fail
  go_cut [42] from 20 to 42 (fun v wc => v = .bool (decide (0 ≤ sh ∧ (rh < 0 ∨ sh < rh))) ∧ ∃ nq, wc = w.drewN nq)
  case first =>
    by_cases a1 : 0 ≤ sh
    · by_cases a2 : rh < 0
      · have d1 : decide (0 ≤ sh) = true := by simp [a1]
        have d2 : decide (rh < 0) = true := by simp [a2]
        go_quiet (fail)
        go_wp2
        go_meet
        case rel => exact ⟨congrArg Value.bool (decide_eq_true (p := 0 ≤ sh ∧ (rh < 0 ∨ sh < rh)) (by omega)).symm, nq, rfl⟩
      · have d1 : decide (0 ≤ sh) = true := by simp [a1]
        have d2 : decide (rh < 0) = false := by simp; omega
        by_cases a3 : sh < rh
        · have d3 : decide (sh < rh) = true := by simp [a3]
          go_quiet (fail)
          go_wp2
          go_meet
          case rel => exact ⟨congrArg Value.bool (decide_eq_true (p := 0 ≤ sh ∧ (rh < 0 ∨ sh < rh)) (by omega)).symm, nq, rfl⟩
        · have d3 : decide (sh < rh) = false := by simp; omega
          go_quiet (fail)
          go_wp2
          go_meet
          case rel => exact ⟨congrArg Value.bool (decide_eq_false (p := 0 ≤ sh ∧ (rh < 0 ∨ sh < rh)) (by omega)).symm, nq, rfl⟩
    · have d1 : decide (0 ≤ sh) = false := by simp; omega
      go_quiet (fail)
      go_wp2
      go_meet
      case rel => exact ⟨congrArg Value.bool (decide_eq_false (p := 0 ≤ sh ∧ (rh < 0 ∨ sh < rh)) (by omega)).symm, nq, rfl⟩
  case rest =>
    obtain ⟨rfl, nq, rfl⟩ := hcut
    go_upto_if 42 with fail
    go_cut [] from 20 to 49 (fun wc => Blk wc R (ringCells low o n lo top (newHi rh sh) rf) 32 ∧ KeptBut [R] w wc)
    case first =>
      by_cases a1 : 0 ≤ sh ∧ (rh < 0 ∨ sh < rh)
      · have d1 : decide (0 ≤ sh ∧ (rh < 0 ∨ sh < rh)) = true := decide_eq_true a1
        have hh : newHi rh sh = sh := if_pos a1
        go_wp2
        go_meet
        case rel =>
          rw [hh]
          exact ⟨(HR.out.drewN nq).set 5 _, ((KeptBut.refl _ _).drewN nq).setCell (.inr (by simp)) _ _⟩
      · have d1 : decide (0 ≤ sh ∧ (rh < 0 ∨ sh < rh)) = false := decide_eq_false a1
        have hh : newHi rh sh = rh := if_neg a1
        go_wp2
        go_meet
        case rel =>
          rw [hh]
          exact ⟨HR.out.drewN nq, (KeptBut.refl _ _).drewN nq⟩
    case rest =>
      obtain ⟨cR, cK⟩ := hcut
      clear r0 r1 r2 r3 r4 r5 r6 f0 f1 f2 f3 f4 f5 f6 s0 s1 s2 s3 s4 s5 s6
      obtain ⟨r0, r1, r2, r3, r4, r5, r6, f0, f1, f2, f3, f4, f5, f6⟩ := cR.seven
      have cS := HS.out.kept cK (by simpa using Ne.symm hRS)
      obtain ⟨s0, s1, s2, s3, s4, s5, s6, _⟩ := cS.seven
      have CR : Hid (Blk wc R (ringCells low o n lo top (newHi rh sh) rf) 32) := cR
      clear cR cS
      go_upto_region 2 with fail
      go_cut [] from 43 to 62 (fun wd => Blk wd R (ringCells low o n lo top (newHi rh sh) (rf || sf)) 32 ∧ KeptBut [R] w wd)
      case first =>
        cases rf
        · go_wp2
          go_meet
          case rel => exact ⟨CR.out.set 6 _, cK.setCell (.inr (by simp)) _ _⟩
        · go_wp2
          go_meet
          case rel => exact ⟨CR.out.set 6 _, cK.setCell (.inr (by simp)) _ _⟩
      case rest =>
        obtain ⟨dR, dK⟩ := hcut
        clear r0 r1 r2 r3 r4 r5 r6 f0 f1 f2 f3 f4 f5 f6 s0 s1 s2 s3 s4 s5 s6 CR cK
        obtain ⟨r0, r1, r2, r3, r4, r5, r6, f0, f1, f2, f3, f4, f5, f6⟩ := dR.seven
        have dS := HS.out.kept dK (by simpa using Ne.symm hRS)
        obtain ⟨s0, s1, s2, s3, s4, s5, s6, _⟩ := dS.seven
        have DR : Hid (Blk wc R (ringCells low o n lo top (newHi rh sh) (rf || sf)) 32) := dR
        clear dR dS
        by_cases hsn : sn = 0
        · have hb0 : ((sn : Int) == 0) = true := by simp [hsn]
          go_wp2
          go_quiet (fail)
          go_wp2
          refine ret_or rfl ⟨rfl, .inl ⟨hsn, DR.out.drewN _, dK.drewN _⟩⟩
        · have hb0 : ((sn : Int) == 0) = false := by simp; omega
          have heq : ∀ nq, (binOp .eql 30 (.pointer (some ⟨SL, 0, .none⟩)) (.pointer low)).run Yba.prog (wc.drewN nq) = .ok (.bool false) (wc.drewN nq) := fun nq => ptr_ne (HLow.out _ (dK.drewN nq)).1 (HLow.out _ (dK.drewN nq)).2
          have heq0 : (binOp .eql 30 (.pointer (some ⟨SL, 0, .none⟩)) (.pointer low)).run Yba.prog wc = .ok (.bool false) wc := heq 0
          have heq1 : (binOp .eql 30 (.pointer (some ⟨SL, 0, .none⟩)) (.pointer low)).run Yba.prog wc.drew = .ok (.bool false) wc.drew := heq 1
          go_wp2
          go_quiet (fail)
          go_wp2_with (go_at_call 10; refine (HO.out (by omega) _ (DR.out.drewN _) (dK.drewN _)).mono ?_; rintro e w2 ⟨rfl, L, WB, W, o', n', lo', top', eR, eL, eW, eI, eP, eS, eSL, eSW, hWS⟩)
          clear r0 r1 r2 r3 r4 r5 r6 f0 f1 f2 f3 f4 f5 f6 s0 s1 s2 s3 s4 s5 s6 HO HR HS DR dK heq heq0 heq1 HLow
          obtain ⟨r0, r1, r2, r3, r4, r5, r6, f0, f1, f2, f3, f4, f5, f6⟩ := eR.seven
          obtain ⟨s0, s1, s2, s3, s4, s5, s6, _⟩ := eS.seven
          have l0 := eL.cell 0
          have m0 := eSL.cell 0
          simp at l0 m0
          have ER : Hid (Blk w2 R (ringCells (some ⟨L, 0, .none⟩) o' n' lo' top' (newHi rh sh) (rf || sf)) 32) := eR
          have ES : Hid (Blk w2 S (ringCells (some ⟨SL, 0, .none⟩) so sn slo stop sh sf) 32) := eS
          have EL : Hid (Blk w2 L [.slice (some ⟨WB, 0, .none⟩) nw nw, .int .i32 1] 41) := eL
          have ESL : Hid (Blk w2 SL [.slice (some ⟨SW, 0, .none⟩) nw nw, .int .i32 1] 41) := eSL
          have EW : Hid (Blk w2 WB (wordCells W) 39) := eW
          have ESW : Hid (Blk w2 SW (wordCells V) 39) := eSW
          have EI : Hid (IsRing nw W o' h n' lo' top') := eI
          have EP : Hid (P L WB o' w2) := eP
          have hol := eI.off
          have hsol := HV.out.off
          clear eR eS eL eSL eW eSW eI eP
          obtain ⟨y, hy, hyl, hy1, hy2⟩ : ∃ y : Nat, y = (so + 64 * nw - o') % (64 * nw) ∧ y < 64 * nw ∧ (so < o' → (so : Int) - o' + 64 * nw = y) ∧ (¬ so < o' → (so : Int) - o' = y) := by
            refine ⟨(so + 64 * nw - o') % (64 * nw), rfl, Nat.mod_lt _ (by omega), fun _ => ?_, fun _ => ?_⟩
            · rw [Nat.mod_eq_of_lt (by omega)]; omega
            · rw [show so + 64 * nw - o' = (so - o') + 64 * nw by omega, Nat.add_mod_right, Nat.mod_eq_of_lt (by omega)]; omega
          have HY : Hid (y = (so + 64 * nw - o') % (64 * nw)) := hy
          have HY1 : Hid (so < o' → (so : Int) - o' + 64 * nw = y) := hy1
          have HY2 : Hid (¬ so < o' → (so : Int) - o' = y) := hy2
          clear hy hy1 hy2
          go_quiet (fail)
          go_wp2_with fail
          go_quiet (fail)
          go_upto_if 122 with fail
          go_cut [11] from 94 to 126 (fun v wc => v = .int .i64 y ∧ ∃ nq, wc = w2.drewN nq)
          case first =>
            by_cases hlt : so < o'
            · have hltI : (so : Int) - o' < 0 := by omega
              have e := HY1.out hlt
              go_wp2
              go_meet
              case rel => exact ⟨congrArg (Value.int .i64) (by omega), _, rfl⟩
            · have hltI : ¬ (so : Int) - o' < 0 := by omega
              have e := HY2.out hlt
              go_wp2
              go_meet
              case rel => exact ⟨congrArg (Value.int .i64) (by omega), _, rfl⟩
          case rest =>
            obtain ⟨rfl, nq2, rfl⟩ := hcut
            obtain ⟨v1, v2, v3, v4⟩ := HV.out.range (show 0 < sn by omega)
            obtain ⟨q, qI, qN⟩ : ∃ q : Nat, (y : Int) / 64 = (q : Int) ∧ q = y / 64 := ⟨y / 64, by omega, rfl⟩
            obtain ⟨s, sI, sN⟩ : ∃ s : Nat, (y : Int) % 64 = (s : Int) ∧ s = y % 64 := ⟨y % 64, by omega, rfl⟩
            have hsl : s < 64 := by omega
            have hql : q < nw := by omega
            have HQ : Hid (64 * q + s = (so + 64 * nw - o') % (64 * nw)) := by
              show _ = _
              rw [← HY.out]; omega
            clear sN qN HY HY1 HY2
            have hj0 : wFirst nw o' slo < nw := wFirst_lt hol (by omega)
            have hcn : wCount nw o' slo stop ≤ nw := wCount_le _ _ _ _
            have HU : Hid (patch (fun i => W.getD i 0) (uw W V nw q s) nw (wFirst nw o' slo) (wCount nw o' slo stop) = (List.range nw).map (uw W V nw q s)) := union_words EI.out HV.out h0 h3 hsl hql HQ.out
            have HUR : Hid (IsRing nw ((List.range nw).map (uw W V nw q s)) o' (fun c => h c || hs c) (n' + addTo nw (wFirst nw o' slo) (fun i => pop (gain W V nw q s i)) (wCount nw o' slo stop)) (if n' = 0 then slo else min lo' slo) (if n' = 0 then stop else max top' stop)) :=
              union_ring EI.out HV.out h0 h3 hsl hql HQ.out (by omega)
            go_upto_if 146 with (go_at_call 11; refine (words_any _ S SL SW nw o' slo stop h3 hol v2 v3 ((ES.out.drewN _).cell 0) ((ES.out.drewN _).cell 3) ((ES.out.drewN _).cell 4) ((ESL.out.drewN _).cell 0)).mono ?_; rintro _ _ ⟨rfl, nq3, rfl⟩)
            generalize wFirst nw o' slo = j0 at *
            generalize wCount nw o' slo stop = cn at *
            go_cut [16] from 127 to 149 (fun v wc => v = .int .i64 ((j0 + q) % nw : Nat) ∧ ∃ nq, wc = w2.drewN nq)
            case first =>
              by_cases hge : nw ≤ j0 + q
              · have hgeI : (nw : Int) ≤ j0 + q := by omega
                have e : (j0 + q) % nw = j0 + q - nw := by rw [Nat.mod_eq_sub_mod hge, Nat.mod_eq_of_lt (by omega)]
                have E : Hid ((j0 + q) % nw = j0 + q - nw) := e
                clear e
                go_wp2
                go_meet
                case rel => exact ⟨congrArg (Value.int .i64) (by rw [E.out]; omega), _, rfl⟩
              · have hgeI : ¬ (nw : Int) ≤ j0 + q := by omega
                have e : (j0 + q) % nw = j0 + q := Nat.mod_eq_of_lt (by omega)
                have E : Hid ((j0 + q) % nw = j0 + q) := e
                clear e
                go_wp2
                go_meet
                case rel => exact ⟨congrArg (Value.int .i64) (by rw [E.out]; omega), _, rfl⟩
            case rest =>
              obtain ⟨rfl, nq4, rfl⟩ := hcut
              go_wp2
              go_loopw [14, 16, 151] (fun vj vk vt wr => ∃ t : Nat, t ≤ cn ∧ vt = .int .i64 t ∧ vj = .int .i64 (wIdx nw j0 t : Nat) ∧ vk = .int .i64 ((wIdx nw j0 t + q) % nw : Nat) ∧
                Blk wr WB (wordCells (patch (fun i => W.getD i 0) (uw W V nw q s) nw j0 t)) 39 ∧ Blk wr R (ringCells (some ⟨L, 0, .none⟩) o' (n' + addTo nw j0 (fun i => pop (gain W V nw q s i)) t) lo' top' (newHi rh sh) (rf || sf)) 32 ∧
                Blk wr S (ringCells (some ⟨SL, 0, .none⟩) so sn slo stop sh sf) 32 ∧ Blk wr SW (wordCells V) 39 ∧ Blk wr L [.slice (some ⟨WB, 0, .none⟩) nw nw, .int .i32 1] 41 ∧ KeptBut [R, WB] w2 wr) (fun _ _ vt _ => cn - (intOf vt).toNat)
              case atStart =>
                have e : wIdx nw j0 0 = j0 := by unfold wIdx; rw [Nat.add_zero, Nat.mod_eq_of_lt hj0]
                refine ⟨0, Nat.zero_le _, rfl, by rw [e], by rw [e], ?_, ER.out.drewN _, ES.out.drewN _, ESW.out.drewN _, EL.out.drewN _, (KeptBut.refl _ _).drewN _⟩
                rw [patch_zero, range_getD W nw EI.out.len]
                exact EW.out.drewN _
              case round =>
                obtain ⟨t, ht, rfl, rfl, rfl, gW, gR, gS, gSW, gL, gK⟩ := hrel
                by_cases hlt : t < cn
                · have hjl : wIdx nw j0 t < nw := wIdx_lt h0
                  have HJ : Hid (wIdx nw j0 (t + 1) = if wIdx nw j0 t + 1 = nw then 0 else wIdx nw j0 t + 1) := wIdx_succ (j0 := j0) (t := t) h0 h3
                  have hVl := HV.out.len
                  have hkl : (wIdx nw j0 t + q) % nw < nw := Nat.mod_lt _ h0
                  have hnl : ((wIdx nw j0 t + q) % nw + 1) % nw < nw := Nat.mod_lt _ h0
                  have c1 := gSW.cell ((wIdx nw j0 t + q) % nw)
                  rw [wordCells_get V _ (by omega)] at c1
                  have c2 := gSW.cell (((wIdx nw j0 t + q) % nw + 1) % nw)
                  rw [wordCells_get V _ (by omega)] at c2
                  have HX : Hid (xw V nw q s (wIdx nw j0 t) = if s = 0 then V.getD ((wIdx nw j0 t + q) % nw) 0 else V.getD ((wIdx nw j0 t + q) % nw) 0 / 2 ^ s ||| V.getD (((wIdx nw j0 t + q) % nw + 1) % nw) 0 * 2 ^ (64 - s) % 2 ^ 64) := rfl
                  have hx1 := HV.out.fit ((wIdx nw j0 t + q) % nw)
                  have hx2 := HV.out.fit (((wIdx nw j0 t + q) % nw + 1) % nw)
                  generalize V.getD (((wIdx nw j0 t + q) % nw + 1) % nw) 0 = z2 at *
                  generalize V.getD ((wIdx nw j0 t + q) % nw) 0 = z1 at *
                  have HKn : Hid (((wIdx nw j0 t + q) % nw + 1 = nw → ((wIdx nw j0 t + q) % nw + 1) % nw = 0) ∧ (¬ (wIdx nw j0 t + q) % nw + 1 = nw → ((wIdx nw j0 t + q) % nw + 1) % nw = (wIdx nw j0 t + q) % nw + 1)) :=
                    ⟨fun e => by rw [e, Nat.mod_self], fun e => Nat.mod_eq_of_lt (by omega)⟩
                  have HK2 : Hid (((wIdx nw j0 t + q) % nw + 1) % nw = (wIdx nw j0 (t + 1) + q) % nw) := by
                    unfold wIdx
                    show _ = _
                    rcases nw_cases h0 h3 with rfl | rfl | rfl <;> omega
                  generalize ((wIdx nw j0 t + q) % nw + 1) % nw = k2 at *
                  generalize (wIdx nw j0 t + q) % nw = k1 at *
                  have htI : (t : Int) < cn := by omega
                  have hk1I : (k1 : Int) < nw := by omega
                  have hk2I : (k2 : Int) < nw := by omega
                  go_upto_if 157 with fail
                  go_cut [17] from 152 to 157 (fun v wc => v = .int .i64 k2 ∧ wc = wr)
                  case first =>
                    by_cases hk : k1 + 1 = nw
                    · have hkI : (k1 : Int) + 1 = nw := by omega
                      have e := HKn.out.1 hk
                      go_wp2
                      go_meet
                      case rel => exact ⟨by rw [e]; rfl, rfl⟩
                    · have hkI : ¬ (k1 : Int) + 1 = nw := by omega
                      have e := HKn.out.2 hk
                      go_wp2
                      go_meet
                      case rel => exact ⟨by rw [e]; go_num, rfl⟩
                  case rest =>
                    obtain ⟨rfl, rfl⟩ := hcut
                    go_upto_if 165 with fail
                    go_cut [18] from 158 to 174 (fun v wd => v = .int .u64 (xw V nw q s (wIdx nw j0 t) : Nat) ∧ wd = wc)
                    case first =>
                      by_cases hs0 : s = 0
                      · subst hs0
                        go_wp2
                        go_meet
                        case rel => exact ⟨by rw [HX.out]; simp, rfl⟩
                      · have hsb : ((s : Int) != 0) = true := by simp; omega
                        have hs0I : (s : Int) ≠ 0 := by omega
                        have hor := or_shift (z1 := z1) (z2 := z2) s hx1
                        rw [← (show xw V nw q s (wIdx nw j0 t) = _ from (HX.out.trans (if_neg hs0)))] at hor
                        have HOR : Hid (bits .or .u64 ((z1 : Int) / 2 ^ s) (IntKind.u64.wrap ((z2 : Int) * 2 ^ (64 - s))) = ((xw V nw q s (wIdx nw j0 t) : Nat) : Int)) := hor
                        clear hor
                        go_wp2
                        go_meet
                        case rel => exact ⟨by rw [HOR.out], rfl⟩
                    case rest =>
                      obtain ⟨rfl, rfl⟩ := hcut
                      have hd := patch_at (f := fun i => W.getD i 0) (g := uw W V nw q s) h0 h3 hj0 (show t < nw by omega)
                      have hst := patch_step (f := fun i => W.getD i 0) (g := uw W V nw q s) h0 h3 hj0 (show t < nw by omega)
                      have c4 := gW.cell (wIdx nw j0 t)
                      rw [wordCells_get _ _ (by rw [patch_length]; exact hjl), hd] at c4
                      have fW4 := gW.frozen (wIdx nw j0 t)
                      have HG1 : Hid (bits .andNot .u64 ((xw V nw q s (wIdx nw j0 t) : Nat) : Int) ((W.getD (wIdx nw j0 t) 0 : Nat) : Int) = ((gain W V nw q s (wIdx nw j0 t) : Nat) : Int)) := u64_andNot_nat _ _ (xw_lt HV.out.fit _ _ _ _) (EI.out.fit _)
                      have HG2 : Hid (bits .or .u64 ((W.getD (wIdx nw j0 t) 0 : Nat) : Int) ((gain W V nw q s (wIdx nw j0 t) : Nat) : Int) = ((uw W V nw q s (wIdx nw j0 t) : Nat) : Int)) := by
                        show _ = _
                        rw [← uw_gain EI.out.fit HV.out.fit]
                        exact u64_or_nat _ _ (EI.out.fit _) (gain_lt HV.out.fit _)
                      have hgl : gain W V nw q s (wIdx nw j0 t) < 18446744073709551616 := gain_lt HV.out.fit _
                      have HA : Hid (n' + addTo nw j0 (fun i => pop (gain W V nw q s i)) (t + 1) = (n' + addTo nw j0 (fun i => pop (gain W V nw q s i)) t) + pop (gain W V nw q s (wIdx nw j0 t))) := (Nat.add_assoc _ _ _).symm
                      have hal := addTo_le (nw := nw) j0 (fun i => pop (gain W V nw q s i)) (fun i => pop_le _) t
                      have hpl := pop_le (gain W V nw q s (wIdx nw j0 t))
                      have hnb : n' ≤ 192 := by
                        have := EI.out.cnt
                        have := (scan_le h (64 * nw - 1)).1
                        omega
                      have hNb : n' + addTo nw j0 (fun i => pop (gain W V nw q s i)) t ≤ 384 := by omega
                      have HSt : Hid (Blk (wc.setCell ⟨WB, wIdx nw j0 t, .none⟩ (.int .u64 (uw W V nw q s (wIdx nw j0 t) : Nat))) WB (wordCells (patch (fun i => W.getD i 0) (uw W V nw q s) nw j0 (t + 1))) 39) := by
                        have := gW.set (wIdx nw j0 t) (.int .u64 (uw W V nw q s (wIdx nw j0 t) : Nat))
                        rw [wordCells_set, hst] at this
                        exact this
                      have hRW : R ≠ WB := fun e => by subst e; have := (gR.uniq gW).2; revert this; decide
                      have hSR : S ≠ R := Ne.symm hRS
                      have hSW : S ≠ WB := fun e => by subst e; have := (gS.uniq gW).2; revert this; decide
                      have hLW : L ≠ WB := fun e => by subst e; have := (gL.uniq gW).2; revert this; decide
                      have hLR : L ≠ R := fun e => by subst e; have := (gL.uniq gR).2; revert this; decide
                      have hSWR : SW ≠ R := fun e => by subst e; have := (gSW.uniq gR).2; revert this; decide
                      clear hd hst hal HX
                      generalize n' + addTo nw j0 (fun i => pop (gain W V nw q s i)) t = N at *
                      generalize gain W V nw q s (wIdx nw j0 t) = g at *
                      generalize uw W V nw q s (wIdx nw j0 t) = u at *
                      generalize xw V nw q s (wIdx nw j0 t) = x at *
                      generalize wIdx nw j0 t = j at *
                      generalize W.getD j 0 = d at *
                      clear r0 r1 r2 r3 r4 r5 r6 f0 f1 f2 f3 f4 f5 f6 s0 s1 s2 s3 s4 s5 s6
                      obtain ⟨r0, r1, r2, r3, r4, r5, r6, f0, f1, f2, f3, f4, f5, f6⟩ := gR.seven
                      have KR : Hid (Blk ((wc.setCell ⟨WB, j, .none⟩ (.int .u64 (u : Nat))).setCell ⟨R, 2, .none⟩ (.int .i32 ((N + pop g : Nat) : Int))) R (ringCells (some ⟨L, 0, .none⟩) o' (N + pop g) lo' top' (newHi rh sh) (rf || sf)) 32) := (gR.other hRW _ _).set 2 _
                      have KW : Hid (Blk ((wc.setCell ⟨WB, j, .none⟩ (.int .u64 (u : Nat))).setCell ⟨R, 2, .none⟩ (.int .i32 ((N + pop g : Nat) : Int))) WB (wordCells (patch (fun i => W.getD i 0) (uw W V nw q s) nw j0 (t + 1))) 39) := HSt.out.other (Ne.symm hRW) _ _
                      have KS : Hid (Blk ((wc.setCell ⟨WB, j, .none⟩ (.int .u64 (u : Nat))).setCell ⟨R, 2, .none⟩ (.int .i32 ((N + pop g : Nat) : Int))) S (ringCells (some ⟨SL, 0, .none⟩) so sn slo stop sh sf) 32) := (gS.other hSW _ _).other hSR _ _
                      have KSW : Hid (Blk ((wc.setCell ⟨WB, j, .none⟩ (.int .u64 (u : Nat))).setCell ⟨R, 2, .none⟩ (.int .i32 ((N + pop g : Nat) : Int))) SW (wordCells V) 39) := (gSW.other (Ne.symm hWS) _ _).other hSWR _ _
                      have KL : Hid (Blk ((wc.setCell ⟨WB, j, .none⟩ (.int .u64 (u : Nat))).setCell ⟨R, 2, .none⟩ (.int .i32 ((N + pop g : Nat) : Int))) L [.slice (some ⟨WB, 0, .none⟩) nw nw, .int .i32 1] 41) := (gL.other hLW _ _).other hLR _ _
                      have KK : Hid (KeptBut [R, WB] w2 ((wc.setCell ⟨WB, j, .none⟩ (.int .u64 (u : Nat))).setCell ⟨R, 2, .none⟩ (.int .i32 ((N + pop g : Nat) : Int)))) := (gK.setCell (.inr (by simp)) _ _).setCell (.inr (by simp)) _ _
                      have hg1 := HG1.out
                      have hg2 := HG2.out
                      clear gR gW gS gSW gL gK HSt
                      have hjI : (j : Int) < nw := by omega
                      have hwr : IntKind.i32.wrap ((N : Int) + IntKind.i32.wrap (pop g : Int)) = (N : Int) + (pop g : Int) := wrap_small hNb hpl
                      go_upto_region 25 with fail
                      go_cut [] from 188 to 197 (fun we => ∃ nq, we = ((wc.setCell ⟨WB, j, .none⟩ (.int .u64 (u : Nat))).setCell ⟨R, 2, .none⟩ (.int .i32 ((N : Int) + (pop g : Int)))).drewN nq)
                      case first =>
                        go_region_with (go_at_call 12; refine (ones_any g hgl _).mono ?_; rintro _ _ ⟨rfl, rfl⟩)
                        all_goals go_wp2_with fail
                        all_goals go_meet
                        all_goals exact ⟨1, rfl⟩
                      case rest =>
                        rw [← Int.natCast_add] at hcut
                        obtain ⟨nq5, rfl⟩ := hcut
                        by_cases hj1 : j + 1 = nw
                        · have hj1I : (j : Int) + 1 = nw := by omega
                          go_wp2
                          go_roundw
                          case rel => exact ⟨t + 1, by omega, by go_num, by rw [HJ.out, if_pos hj1]; rfl, by rw [← HK2.out], KW.out.drewN _, by rw [HA.out]; exact KR.out.drewN _, KS.out.drewN _, KSW.out.drewN _, KL.out.drewN _, KK.out.drewN _⟩
                          case measure => simp [intOf]; omega
                        · have hj1I : ¬ (j : Int) + 1 = nw := by omega
                          go_wp2
                          go_roundw
                          case rel => exact ⟨t + 1, by omega, by go_num, by rw [HJ.out, if_neg hj1]; go_num, by rw [← HK2.out], KW.out.drewN _, by rw [HA.out]; exact KR.out.drewN _, KS.out.drewN _, KSW.out.drewN _, KL.out.drewN _, KK.out.drewN _⟩
                          case measure => simp [intOf]; omega
                · obtain rfl : t = cn := by omega
                  rw [HU.out] at gW
                  have hRW : R ≠ WB := fun e => by subst e; have := (gR.uniq gW).2; revert this; decide
                  have hLW : L ≠ WB := fun e => by subst e; have := (gL.uniq gW).2; revert this; decide
                  have hLR : L ≠ R := fun e => by subst e; have := (gL.uniq gR).2; revert this; decide
                  generalize n' + addTo nw j0 (fun i => pop (gain W V nw q s i)) t = N at *
                  clear r0 r1 r2 r3 r4 r5 r6 f0 f1 f2 f3 f4 f5 f6 s0 s1 s2 s3 s4 s5 s6
                  obtain ⟨r0, r1, r2, r3, r4, r5, r6, f0, f1, f2, f3, f4, f5, f6⟩ := gR.seven
                  obtain ⟨s0, s1, s2, s3, s4, s5, s6, _⟩ := gS.seven
                  have GR : Hid (Blk wr R (ringCells (some ⟨L, 0, .none⟩) o' N lo' top' (newHi rh sh) (rf || sf)) 32) := gR
                  have GW : Hid (Blk wr WB (wordCells ((List.range nw).map (uw W V nw q s))) 39) := gW
                  have GL : Hid (Blk wr L [.slice (some ⟨WB, 0, .none⟩) nw nw, .int .i32 1] 41) := gL
                  have GS : Hid (Blk wr S (ringCells (some ⟨SL, 0, .none⟩) so sn slo stop sh sf) 32) := gS
                  clear gR gW gL gS gSW
                  by_cases hn0 : n' = 0
                  · obtain ⟨z1, z2⟩ := EI.out.none hn0
                    have hd : decide ((top' : Int) < lo') = true := by simp; omega
                    have HRi := HUR.out
                    rw [if_pos hn0, if_pos hn0] at HRi
                    have HRing : Hid (IsRing nw ((List.range nw).map (uw W V nw q s)) o' (fun c => h c || hs c) N slo stop) := HRi
                    clear HRi HUR HU
                    go_wp2
                    go_quiet (fail)
                    go_wp2
                    clear r0 r1 r2 r3 r4 r5 r6 f0 f1 f2 f3 f4 f5 f6 s0 s1 s2 s3 s4 s5 s6
                    obtain ⟨_, _, _, r3, r4, _, _, _, _, _, f3, f4, _, _⟩ := (GR.out.drewN nq).seven
                    obtain ⟨_, _, _, s3, s4, _⟩ := (GS.out.drewN nq).seven
                    have GR' : Hid (Blk (wr.drewN nq) R (ringCells (some ⟨L, 0, .none⟩) o' N lo' top' (newHi rh sh) (rf || sf)) 32) := GR.out.drewN nq
                    have GW' : Hid (Blk (wr.drewN nq) WB (wordCells ((List.range nw).map (uw W V nw q s))) 39) := GW.out.drewN nq
                    have GL' : Hid (Blk (wr.drewN nq) L [.slice (some ⟨WB, 0, .none⟩) nw nw, .int .i32 1] 41) := GL.out.drewN nq
                    have GK' : Hid (KeptBut [R, WB] w2 (wr.drewN nq)) := gK.drewN nq
                    clear GR GW GL GS gK
                    generalize wr.drewN nq = wz at *
                    go_region
                    go_wp2_with fail
                    refine end_or rfl ⟨rfl, .inr ⟨by omega, L, WB, o', w2, _, N, slo, stop, EP.out, ?_, ?_, ?_, ?_, HRing.out⟩⟩
                    · exact ((GK'.out.setCell (.inr (by simp)) _ _).setCell (.inr (by simp)) _ _).drew
                    · exact ((GR'.out.set 3 _).set 4 _).drew
                    · exact ((GL'.out.other hLR _ _).other hLR _ _).drew
                    · exact ((GW'.out.other (Ne.symm hRW) _ _).other (Ne.symm hRW) _ _).drew
                  · obtain ⟨z1, z2, z3, z4⟩ := EI.out.range (by omega)
                    have hd : decide ((top' : Int) < lo') = false := by simp; omega
                    have HRi := HUR.out
                    rw [if_neg hn0, if_neg hn0] at HRi
                    have HRing : Hid (IsRing nw ((List.range nw).map (uw W V nw q s)) o' (fun c => h c || hs c) N (min lo' slo) (max top' stop)) := HRi
                    clear HRi HUR HU
                    go_wp2
                    go_quiet (fail)
                    go_wp2
                    clear r0 r1 r2 r3 r4 r5 r6 f0 f1 f2 f3 f4 f5 f6 s0 s1 s2 s3 s4 s5 s6
                    obtain ⟨_, _, _, r3, r4, _, _, _, _, _, f3, f4, _, _⟩ := (GR.out.drewN nq).seven
                    obtain ⟨_, _, _, s3, s4, _⟩ := (GS.out.drewN nq).seven
                    have GR' : Hid (Blk (wr.drewN nq) R (ringCells (some ⟨L, 0, .none⟩) o' N lo' top' (newHi rh sh) (rf || sf)) 32) := GR.out.drewN nq
                    have GW' : Hid (Blk (wr.drewN nq) WB (wordCells ((List.range nw).map (uw W V nw q s))) 39) := GW.out.drewN nq
                    have GL' : Hid (Blk (wr.drewN nq) L [.slice (some ⟨WB, 0, .none⟩) nw nw, .int .i32 1] 41) := GL.out.drewN nq
                    have GK' : Hid (KeptBut [R, WB] w2 (wr.drewN nq)) := gK.drewN nq
                    clear GR GW GL GS gK
                    generalize wr.drewN nq = wz at *
                    go_region
                    rw [min_int, max_int]
                    go_wp2_with fail
                    refine end_or rfl ⟨rfl, .inr ⟨by omega, L, WB, o', w2, _, N, min lo' slo, max top' stop, EP.out, ?_, ?_, ?_, ?_, HRing.out⟩⟩
                    · exact ((GK'.out.setCell (.inr (by simp)) _ _).setCell (.inr (by simp)) _ _).drew
                    · exact ((GR'.out.set 3 _).set 4 _).drew
                    · exact ((GL'.out.other hLR _ _).other hLR _ _).drew
                    · exact ((GW'.out.other (Ne.symm hRW) _ _).other (Ne.symm hRW) _ _).drew

end Go.Proofs.Ybulkddhs
