import Derived.Test.YbulkddemDoorLawAll
import Derived.Test.YbulkddemDoorTie
import Derived.ProofKit
import Derived.LaidMore
import Derived.OpenVars
import Derived.OpenShut
import Derived.SevenTiedAt
import Derived.Stop.Joined
namespace Go.Proofs.YbulkddemDoor
open Go.ChangeShapes Go.WideShapes Go.ChangeAt Go.RowKit

theorem own : ownKnob Ybad.prog.godebug = .none := by kernel_rfl
theorem laidOut : laidOutB Ybad.prog = true := by kernel_rfl
theorem tKinds : (Ybad.prog.globals[1]?).map (·.type) = some 37 := by kernel_rfl

theorem door1_met (os : Os) (args : Array Value) : laidMetH Ybad.prog Rows.lawS5225BModelRow.laid ((World.doorLaid Ybad.prog 54 os).forCall (fun _ _ => 0) ⟨#[], args, []⟩).memory :=
  laidMetH_of_parts3 (fuel := 8) (laidMet_of_run' 8 (by kernel_rfl) (by kernel_rfl)) (by kernel_rfl) (by kernel_rfl)
theorem door2_met (os : Os) (args : Array Value) : laidMetH Ybad.prog Rows.lawS5225BAllMinusRow.laid ((World.doorLaid Ybad.prog 54 os).forCall (fun _ _ => 0) ⟨#[], args, []⟩).memory :=
  laidMetH_of_parts3 (fuel := 8) (laidMet_of_run' 8 (by kernel_rfl) (by kernel_rfl)) (by kernel_rfl) (by kernel_rfl)

/-- A variable that reads as a slice of sixteen elements without spare. -/
theorem kinds_cell {n : String} (gKinds : Ybad.prog.globalNamed n = some 1) {W : World} {g : Nat} {t : TypeId} {cs : Array Value} {f : Nat} {p : List MemPlace} (hg : Ybad.prog.globalNamed n = some g) (ht : (Ybad.prog.globals[g]?).map (·.type) = some t)
    {enc : TypeId × Value → Unit} {base : Nat} {sp : Nat → Bool} {held : Bool}
    (hv : W.var? Ybad.prog n = some cs) (hd : DataW.trod enc Ybad.prog W base sp held f t cs.toList = some (Rows.laid_example_com_rookery_rookery_internal_diag_kinds, p)) :
    ∃ a c, W.cell? ⟨1, 0, .none⟩ = some (.slice a 16 c) := by
  obtain rfl := Option.some.inj (gKinds.symm.trans hg)
  obtain rfl := Option.some.inj (tKinds.symm.trans ht)
  rcases DataW.trod_slice Ybad.underlying37 hd with ⟨_, hx⟩ | ⟨a, len, cap, elems, rest, m, _, hcs, hx, _, hl, _, hlen, hel, _⟩
  · simp [Rows.laid_example_com_rookery_rookery_internal_diag_kinds] at hx
  · have e : len = 16 := by
      have hx1 : Rows.laid_example_com_rookery_rookery_internal_diag_kinds = _ := congrArg Prod.fst hx
      simp only [Rows.laid_example_com_rookery_rookery_internal_diag_kinds, DataW.slice.injEq] at hx1
      have := congrArg List.length hx1.1
      simp at this
      omega
    subst e
    refine ⟨some a, cap, ?_⟩
    have := World.var?_cell hg hv 0
    rw [Array.eq_one_of_toList hcs] at this
    simpa using this

theorem of_laid1 {W : World} (h : laidMetH Ybad.prog Rows.lawS5225BModelRow.laid W) : ∃ a c, W.cell? ⟨1, 0, .none⟩ = some (.slice a 16 c) := by
  rw [MakeChecks.laidMetH_plain _ _ _ (by kernel_rfl)] at h
  obtain ⟨ps, ⟨g0, t0, cs0, f0, p0, q0, hg0, ht0, hv0, hd0, ⟨g1, t1, cs1, f1, p1, q1, hg1, ht1, hv1, hd1, _, _⟩, _⟩, _, _⟩ := h
  exact kinds_cell (by kernel_rfl) hg1 ht1 hv1 hd1
theorem of_laid2 {W : World} (h : laidMetH Ybad.prog Rows.lawS5225BAllMinusRow.laid W) : ∃ a c, W.cell? ⟨1, 0, .none⟩ = some (.slice a 16 c) := by
  rw [MakeChecks.laidMetH_plain _ _ _ (by kernel_rfl)] at h
  obtain ⟨ps, ⟨g0, t0, cs0, f0, p0, q0, hg0, ht0, hv0, hd0, ⟨g1, t1, cs1, f1, p1, q1, hg1, ht1, hv1, hd1, _, _⟩, _⟩, _, _⟩ := h
  exact kinds_cell (by kernel_rfl) hg1 ht1 hv1 hd1

theorem nat_of {x : Int} (h : (Lit.int .u64 x).wf = true) : ∃ n : Nat, x = n ∧ n < 18446744073709551616 := by
  have : 0 ≤ x ∧ x ≤ 18446744073709551615 := by simpa [Lit.wf, IntKind.min, IntKind.max, IntKind.signed, IntKind.bits] using h
  obtain ⟨n, rfl⟩ := Int.eq_ofNat_of_zero_le this.1
  exact ⟨n, rfl, by omega⟩

theorem lt_of_cell {W : World} {v : Value} (h : W.cell? ⟨1, 0, .none⟩ = some v) : 1 < W.heap.size := by
  rcases Nat.lt_or_ge 1 W.heap.size with g | g
  · exact g
  · simp [World.cell?, Array.getElem?_eq_none g] at h

set_option maxRecDepth 100000 in
theorem lifted1 (os : Os) (started : os.Started) (H : Type) (enc : TypeId × Value → H) :
    ReturnsInHanded {} Ybad.checked os 3 .any (fun w args => (Rows.lawS5225BModelSpec.pre enc Ybad.prog Ybad.f3 [] false w args ∧ laidMetH Ybad.prog Rows.lawS5225BModelRow.laid w) ∧ sizedMet enc Ybad.prog Ybad.f3 (OpenSpec.ofChange Rows.lawS5225BModelSpec) false w args)
      (Rows.lawS5225BModelSpec.post enc Ybad.prog Ybad.f3 false true false false) := by
  refine returnsInHanded_of_change_and (C := Ybad.checked) (X := fun w _ => laidMetH Ybad.prog Rows.lawS5225BModelRow.laid w) (fun _ _ _ hh h => h.of_heap hh) own started (by kernel_rfl) Ybad.func3
    (ChangeSpec.witness_shaped (enc := enc) (C := Ybad.checked) (os := os) (X := fun w _ => laidMetH Ybad.prog Rows.lawS5225BModelRow.laid w) false (World.doorLaid Ybad.prog 54 os) #[.int .u64 0, .int .u64 0] 8 rfl (World.shaped_of_RefB (by kernel_rfl) (by kernel_rfl)) (by kernel_rfl) (by kernel_rfl) (by kernel_rfl) (door1_met os _)) ?_
  intro W base args ds gs before hval0 hW _ _ hL _
  have hval : ∀ (j : Nat) t v, Ybad.f3.params[j]? = some t → args[j]? = some v → Value.okWide Ybad.prog W .any base t v := hval0
  have hW' := hW
  obtain ⟨p, q, hA0, hV, rfl, hfz, hnd⟩ := hW
  have hA : DataW.TrodAll enc Ybad.prog W 0 (fun _ => true) true Ybad.f3.params.toList args.toList ds p := hA0
  rw [Ybad.params3] at hA hval
  obtain ⟨v0, v1, d0, d1, p0, p1, rfl, rfl, rfl, h0, h1⟩ := trodAll_two hA
  obtain ⟨f, rfl, rfl, rfl, wf⟩ := open_int Ybad.underlying22 (hval 0 22 v0 rfl rfl) h0
  obtain ⟨g, rfl, rfl, rfl, wg⟩ := open_int Ybad.underlying22 (hval 1 22 v1 rfl rfl) h1
  obtain ⟨a, c, hc⟩ := of_laid1 hL
  obtain ⟨F, rfl, hF⟩ := nat_of wf
  obtain ⟨G, rfl, hG⟩ := nat_of wg
  clear hA0 hval0
  have hV1 := hV
  obtain ⟨g0, t0, cs0, f0, e0, r0, rfl, _, _, _, _, _⟩ := trodVars_one hV
  refine (law_model F G W a c hc (lt_of_cell hc) hF hG).mono fun e W' ⟨he, hb⟩ => ?_
  subst he
  exact ⟨_, rfl, _, _, _, [], [], q, hW', trodAll_mk1 (shut_bool Ybad.underlying4 _), trodAll_mk2 (shut_int Ybad.underlying22 wf) (shut_int Ybad.underlying22 wg), hb.trodVars laidOut (by kernel_rfl) hV1, hb.frame _, fun h => by cases h⟩

theorem lawS5225BModel_holds : Rows.LawS5225BModelSaid :=
  OpenClaim.holds_of_wide 3 Ybad.f3 rfl rfl rfl rfl rfl rfl rfl ⟨rfl, rfl, rfl, rfl, rfl⟩ rfl rfl rfl rfl rfl (by kernel_rfl) Ybad.func3 (by kernel_rfl)
    (of_decide_eq_true (by kernel_rfl)) (by unfold Func.isWrapper; first | (rw [if_pos (by decide +kernel)]; kernel_rfl) | (rw [if_neg (by decide +kernel)]; exact ⟨rfl, rfl⟩))
    (fun os started H enc _ => lifted1 os started H enc)

theorem lawS5225BModel_card : Rows.LawS5225BModelCardSaid :=
  Claim7.holds_tied_plain_at .later [] [.data, .data] true (true, "2c86f54fa647c4bfc00e052d51fc640983a2cc07bcef256b8890357ad78e0f8b") false
    lawS5225BModel_holds (fun _ h => by cases h) (by kernel_rfl) (fun _ h => by cases h) lawS5225BModel_row_tie rfl ⟨rfl, rfl⟩ (by kernel_rfl) rfl
    (fun f fn hf hfn => by
      obtain rfl : f = 3 := Option.some.inj ((show Ybad.prog.funcNamed Rows.lawS5225BModelRow.func = some 3 by kernel_rfl).symm.trans hf) |>.symm
      obtain rfl : fn = Ybad.f3 := (Option.some.inj (Ybad.func3.symm.trans hfn)).symm
      exact ⟨by kernel_rfl, fun j t ht => by
        rw [Ybad.params3] at ht
        have hm : t ∈ [22, 22] := by simpa using Array.mem_of_getElem? ht
        have hall : ([22, 22].all fun u => !Ybad.prog.wantsStandIn u) = true := by kernel_rfl
        exact (show Ybad.prog.wantsStandIn t = false by simpa using List.all_eq_true.1 hall t hm)⟩)
    (by kernel_rfl)

set_option maxRecDepth 100000 in
theorem lifted2 (os : Os) (started : os.Started) (H : Type) (enc : TypeId × Value → H) :
    ReturnsInHanded {} Ybad.checked os 4 .any (fun w args => (Rows.lawS5225BAllMinusSpec.pre enc Ybad.prog Ybad.f4 [] false w args ∧ laidMetH Ybad.prog Rows.lawS5225BAllMinusRow.laid w) ∧ sizedMet enc Ybad.prog Ybad.f4 (OpenSpec.ofChange Rows.lawS5225BAllMinusSpec) false w args)
      (Rows.lawS5225BAllMinusSpec.post enc Ybad.prog Ybad.f4 false true false false) := by
  refine returnsInHanded_of_change_and (C := Ybad.checked) (X := fun w _ => laidMetH Ybad.prog Rows.lawS5225BAllMinusRow.laid w) (fun _ _ _ hh h => h.of_heap hh) own started (by kernel_rfl) Ybad.func4
    (ChangeSpec.witness_shaped (enc := enc) (C := Ybad.checked) (os := os) (X := fun w _ => laidMetH Ybad.prog Rows.lawS5225BAllMinusRow.laid w) false (World.doorLaid Ybad.prog 54 os) #[.int .u64 0] 8 rfl (World.shaped_of_RefB (by kernel_rfl) (by kernel_rfl)) (by kernel_rfl) (by kernel_rfl) (by kernel_rfl) (door2_met os _)) ?_
  intro W base args ds gs before hval0 hW _ _ hL _
  have hval : ∀ (j : Nat) t v, Ybad.f4.params[j]? = some t → args[j]? = some v → Value.okWide Ybad.prog W .any base t v := hval0
  have hW' := hW
  obtain ⟨p, q, hA0, hV, rfl, hfz, hnd⟩ := hW
  have hA : DataW.TrodAll enc Ybad.prog W 0 (fun _ => true) true Ybad.f4.params.toList args.toList ds p := hA0
  rw [Ybad.params4] at hA hval
  obtain ⟨v0, d0, rfl, rfl, h0⟩ := trodAll_one hA
  obtain ⟨g, rfl, rfl, rfl, wg⟩ := open_int Ybad.underlying22 (hval 0 22 v0 rfl rfl) h0
  obtain ⟨a, c, hc⟩ := of_laid2 hL
  obtain ⟨G, rfl, hG⟩ := nat_of wg
  clear hA0 hval0
  have hV1 := hV
  obtain ⟨g0, t0, cs0, f0, e0, r0, g1, t1, cs1, f1, e1, r1, rfl, _, _, _, _, _, _, _, _, _⟩ := trodVars_two hV
  refine (law_all G W a c hc (lt_of_cell hc) hG).mono fun e W' ⟨he, hb⟩ => ?_
  subst he
  exact ⟨_, rfl, _, _, _, [], [], q, hW', trodAll_mk1 (shut_bool Ybad.underlying4 _), trodAll_mk1 (shut_int Ybad.underlying22 wg), hb.trodVars laidOut (by kernel_rfl) hV1, hb.frame _, fun h => by cases h⟩

theorem lawS5225BAllMinus_holds : Rows.LawS5225BAllMinusSaid :=
  OpenClaim.holds_of_wide 4 Ybad.f4 rfl rfl rfl rfl rfl rfl rfl ⟨rfl, rfl, rfl, rfl, rfl⟩ rfl rfl rfl rfl rfl (by kernel_rfl) Ybad.func4 (by kernel_rfl)
    (of_decide_eq_true (by kernel_rfl)) (by unfold Func.isWrapper; first | (rw [if_pos (by decide +kernel)]; kernel_rfl) | (rw [if_neg (by decide +kernel)]; exact ⟨rfl, rfl⟩))
    (fun os started H enc _ => lifted2 os started H enc)

theorem lawS5225BAllMinus_card : Rows.LawS5225BAllMinusCardSaid :=
  Claim7.holds_tied_plain_at .later [] [.data, .data, .sentinel] true (true, "2c86f54fa647c4bfc00e052d51fc640983a2cc07bcef256b8890357ad78e0f8b") false
    lawS5225BAllMinus_holds (fun _ h => by cases h) (by kernel_rfl) (fun _ h => by cases h) lawS5225BAllMinus_row_tie rfl ⟨rfl, rfl⟩ (by kernel_rfl) rfl
    (fun f fn hf hfn => by
      obtain rfl : f = 4 := Option.some.inj ((show Ybad.prog.funcNamed Rows.lawS5225BAllMinusRow.func = some 4 by kernel_rfl).symm.trans hf) |>.symm
      obtain rfl : fn = Ybad.f4 := (Option.some.inj (Ybad.func4.symm.trans hfn)).symm
      exact ⟨by kernel_rfl, fun j t ht => by
        rw [Ybad.params4] at ht
        have hm : t ∈ [22] := by simpa using Array.mem_of_getElem? ht
        have hall : ([22].all fun u => !Ybad.prog.wantsStandIn u) = true := by kernel_rfl
        exact (show Ybad.prog.wantsStandIn t = false by simpa using List.all_eq_true.1 hall t hm)⟩)
    (by kernel_rfl)

end Go.Proofs.YbulkddemDoor
