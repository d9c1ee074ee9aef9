import Derived.Test.YbonekvyyFmtLawWalks
import Derived.ProofKit
import Derived.Stop.JoinedAt
import Derived.Stop.Texts
import Derived.Stop.JoinedTold
import Derived.SevenToldRow
namespace Go.Proofs.YbonekvyyFmt
open Go.ChangeShapes Go.WideShapes Go.ChangeAt Go.RowKit Go.Kit
open Go.Extern.Stop Go.Stop Go.Extern

theorem Ybgu.own : ownKnob Ybgu.prog.godebug = .none := by kernel_rfl
theorem Ybgu.laidOut : laidOutB Ybgu.pinned.checked.prog = true := by kernel_rfl
theorem Ybgu.stops : Ybgu.pinned.checked.prog.stops = ["fmt.errorf"] := by kernel_rfl
theorem Ybgu.stopKnobs : Ybgu.pinned.checked.prog.stopKnobs = [] := by kernel_rfl
theorem Ybgu.quiet (os : Os) : Stop.quiet Ybgu.pinned.checked.prog os := by
  intro k hk
  rw [Ybgu.stopKnobs] at hk
  cases hk

/-- The law's call, whatever the input. -/
theorem law_any (F : Interp) (n : Int) (w : World) (hF : F.answers w.tape) :
    Calls Ybgu.prog 3 #[.int .i64 n] w fun e w' => e = .returned (.bool true) ∧ Below w.heap.size w w' := by
  by_cases h : 0 ≤ n ∧ n < 3
  · exact law_ok n w h.1 h.2
  · exact law_bad F n w hF (by omega)

set_option maxRecDepth 100000 in
theorem law_lifted (os : Os) (started : os.Started) (H : Type) (enc : TypeId × Value → H) :
    ReturnsInTold .none {} Ybgu.checked os 3 .any Input.okWide ((OpenSpec.ofChange Rows.lawS5222BExactSpec).preRow enc Ybgu.prog Ybgu.f3 [] false []) (fun F => ((OpenSpec.ofChange Rows.lawS5222BExactSpec).at F).post enc Ybgu.prog Ybgu.f3 false true false false) (aloneAtReturn Ybgu.prog) nothingAlways := by
  refine returnsInTold_of_row (C := Ybgu.checked) (s := OpenSpec.ofChange Rows.lawS5222BExactSpec) (by kernel_rfl) Ybgu.own started (by kernel_rfl) Ybgu.func3
    (OpenSpec.witness_stopped (enc := enc) (C := Ybgu.checked) false ⟨#[], #[.int .i64 1], []⟩ 8 (by kernel_rfl) (by kernel_rfl) (by kernel_rfl) (by kernel_rfl)) ?_
  intro F W base args ds gs before _ hF hval0 hW _ _ _ _ _
  have hval : ∀ (j : Nat) t v, Ybgu.f3.params[j]? = some t → args[j]? = some v → Value.okWide Ybgu.prog W .any base t v := hval0
  have hW' := hW
  obtain ⟨p, q, hA0, hV, rfl, hfz, hnd⟩ := hW
  have hA : DataW.TrodAll enc Ybgu.prog W 0 (fun _ => true) true Ybgu.f3.params.toList args.toList ds p := hA0
  rw [Ybgu.params3] at hA hval
  obtain ⟨v0, d0, rfl, rfl, h0⟩ := trodAll_one hA
  obtain ⟨rfl, rfl⟩ := trodVars_none hV
  obtain ⟨n, rfl, rfl, rfl, wn⟩ := open_int Ybgu.underlying3 (hval 0 3 v0 rfl rfl) h0
  clear hA0 hval0
  refine (law_any F.told n W hF).mono fun e W' ⟨he, hB⟩ => ?_
  subst he
  refine ⟨_, rfl, _, _, _, [], [], [], hW', ?_, ?_, rfl, hB.frame _, fun h => by cases h⟩
  · exact trodAll_mk1 (shut_bool Ybgu.underlying4 true)
  · exact trodAll_mk1 (shut_int Ybgu.underlying3 wn)

theorem lawS5222BExact_told : Rows.LawS5222BExactToldSaid :=
  Claim7.holds_of_told_any 3 Ybgu.f3 "fmt.errorf" [] [] _ _ _ (by kernel_rfl) rfl rfl rfl Ybgu.laidOut (by kernel_rfl) rfl ⟨rfl, rfl, rfl, rfl, rfl, rfl, rfl⟩ rfl rfl (by kernel_rfl) (by kernel_rfl) Ybgu.func3 (by kernel_rfl)
    (of_decide_eq_true (by kernel_rfl)) (of_decide_eq_true (by kernel_rfl)) Ybgu.stops.symm rfl Ybgu.stopKnobs.symm (by kernel_rfl)
    (by kernel_rfl) (by kernel_rfl) (by kernel_rfl) (by kernel_rfl) (by kernel_rfl) (by kernel_rfl) (by kernel_rfl) (by kernel_rfl) (by kernel_rfl) rfl (by kernel_rfl) rfl rfl
    rfl rfl
    rfl (by kernel_rfl) (by kernel_rfl) (by kernel_rfl) (by decide) (by kernel_rfl)
    (OpenClaim.moreEntering_of (by kernel_rfl) (by kernel_rfl) (by kernel_rfl) (by kernel_rfl) (by kernel_rfl) (by kernel_rfl) (by kernel_rfl) (by kernel_rfl) (by kernel_rfl) (by kernel_rfl))
    ⟨_, WideRow.started_initial, Ybgu.quiet _⟩
    (fun os started _ H enc _ => law_lifted os started H enc)

end Go.Proofs.YbonekvyyFmt
