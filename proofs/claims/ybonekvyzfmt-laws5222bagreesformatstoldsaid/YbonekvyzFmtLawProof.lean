import Derived.Test.YbonekvyzFmtLawWalks
import Derived.ProofKit
import Derived.Stop.JoinedAt
import Derived.Stop.Texts
import Derived.Stop.JoinedTold
import Derived.SevenToldRow
namespace Go.Proofs.YbonekvyzFmt
open Go.ChangeShapes Go.WideShapes Go.ChangeAt Go.RowKit Go.Kit
open Go.Extern.Stop Go.Stop Go.Extern

theorem Ybgv.own : ownKnob Ybgv.prog.godebug = .none := by kernel_rfl
theorem Ybgv.laidOut : laidOutB Ybgv.pinned.checked.prog = true := by kernel_rfl
theorem Ybgv.stops : Ybgv.pinned.checked.prog.stops = ["fmt.errorf"] := by kernel_rfl
theorem Ybgv.stopKnobs : Ybgv.pinned.checked.prog.stopKnobs = [] := by kernel_rfl
theorem Ybgv.quiet (os : Os) : Stop.quiet Ybgv.pinned.checked.prog os := by
  intro k hk
  rw [Ybgv.stopKnobs] at hk
  cases hk

/-- The law's call, whatever the input. -/
theorem law_any (F : Interp) (n : Int) (w : World) (hF : F.answers w.tape) :
    Calls Ybgv.prog 3 #[.int .i64 n] w fun e w' => e = .returned (.bool true) ∧ Below w.heap.size w w' := by
  by_cases h : 0 ≤ n ∧ n < 3
  · exact law_ok n w h.1 h.2
  · exact law_bad F n w hF (by omega)

set_option maxRecDepth 100000 in
theorem law_lifted (os : Os) (started : os.Started) (H : Type) (enc : TypeId × Value → H) :
    ReturnsInTold .none {} Ybgv.checked os 3 .any Input.okWide ((OpenSpec.ofChange Rows.lawS5222BAgreesFormatsSpec).preRow enc Ybgv.prog Ybgv.f3 [] false []) (fun F => ((OpenSpec.ofChange Rows.lawS5222BAgreesFormatsSpec).at F).post enc Ybgv.prog Ybgv.f3 false true false false) (aloneAtReturn Ybgv.prog) nothingAlways := by
  refine returnsInTold_of_row (C := Ybgv.checked) (s := OpenSpec.ofChange Rows.lawS5222BAgreesFormatsSpec) (by kernel_rfl) Ybgv.own started (by kernel_rfl) Ybgv.func3
    (OpenSpec.witness_stopped (enc := enc) (C := Ybgv.checked) false ⟨#[], #[.int .i64 1], []⟩ 8 (by kernel_rfl) (by kernel_rfl) (by kernel_rfl) (by kernel_rfl)) ?_
  intro F W base args ds gs before _ hF hval0 hW _ _ _ _ _
  have hval : ∀ (j : Nat) t v, Ybgv.f3.params[j]? = some t → args[j]? = some v → Value.okWide Ybgv.prog W .any base t v := hval0
  have hW' := hW
  obtain ⟨p, q, hA0, hV, rfl, hfz, hnd⟩ := hW
  have hA : DataW.TrodAll enc Ybgv.prog W 0 (fun _ => true) true Ybgv.f3.params.toList args.toList ds p := hA0
  rw [Ybgv.params3] at hA hval
  obtain ⟨v0, d0, rfl, rfl, h0⟩ := trodAll_one hA
  obtain ⟨rfl, rfl⟩ := trodVars_none hV
  obtain ⟨n, rfl, rfl, rfl, wn⟩ := open_int Ybgv.underlying3 (hval 0 3 v0 rfl rfl) h0
  clear hA0 hval0
  refine (law_any F.told n W hF).mono fun e W' ⟨he, hB⟩ => ?_
  subst he
  refine ⟨_, rfl, _, _, _, [], [], [], hW', ?_, ?_, rfl, hB.frame _, fun h => by cases h⟩
  · exact trodAll_mk1 (shut_bool Ybgv.underlying4 true)
  · exact trodAll_mk1 (shut_int Ybgv.underlying3 wn)

theorem lawS5222BAgreesFormats_told : Rows.LawS5222BAgreesFormatsToldSaid :=
  Claim7.holds_of_told_any 3 Ybgv.f3 "fmt.errorf" [] [] _ _ _ (by kernel_rfl) rfl rfl rfl Ybgv.laidOut (by kernel_rfl) rfl ⟨rfl, rfl, rfl, rfl, rfl, rfl, rfl⟩ rfl rfl (by kernel_rfl) (by kernel_rfl) Ybgv.func3 (by kernel_rfl)
    (of_decide_eq_true (by kernel_rfl)) (of_decide_eq_true (by kernel_rfl)) Ybgv.stops.symm rfl Ybgv.stopKnobs.symm (by kernel_rfl)
    (by kernel_rfl) (by kernel_rfl) (by kernel_rfl) (by kernel_rfl) (by kernel_rfl) (by kernel_rfl) (by kernel_rfl) (by kernel_rfl) (by kernel_rfl) rfl (by kernel_rfl) rfl rfl
    rfl rfl
    rfl (by kernel_rfl) (by kernel_rfl) (by kernel_rfl) (by decide) (by kernel_rfl)
    (OpenClaim.moreEntering_of (by kernel_rfl) (by kernel_rfl) (by kernel_rfl) (by kernel_rfl) (by kernel_rfl) (by kernel_rfl) (by kernel_rfl) (by kernel_rfl) (by kernel_rfl) (by kernel_rfl))
    ⟨_, WideRow.started_initial, Ybgv.quiet _⟩
    (fun os started _ H enc _ => law_lifted os started H enc)

end Go.Proofs.YbonekvyzFmt
