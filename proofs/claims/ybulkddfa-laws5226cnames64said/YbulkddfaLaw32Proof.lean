import Derived.Test.YbulkddfaLaw32Edge
import Derived.ProofKit
import Derived.OpenShut
import Derived.ChangeOld
import Derived.Deep.SlicePairs
namespace Go.Proofs.Ybulkddfa
open Go.ChangeShapes Go.WideShapes Go.ChangeAt Go.RowKit Go.Deep

theorem own : ownKnob Yba.prog.godebug = .none := by kernel_rfl
theorem laidOut : laidOutB Yba.prog = true := by kernel_rfl

/-- An address at which a cell lies is a plain one. -/
theorem plain_of_cell {w : World} {a : Addr} {v : Value} (h : w.cell? a = some v) : ∃ b off, a = ⟨b, off, .none⟩ := by
  obtain ⟨b, off, spot⟩ := a
  have hspot : spot = .none := World.cell?_spot h
  subst hspot
  exact ⟨b, off, rfl⟩

/-- WHAT THE WALK IS TOLD OF A SLICE OF PAIRS THAT CAME IN. -/
def IsPairs (k : IntKind) (w : World) (a : Option Addr) (len : Nat) (F : Nat → Int) (N : Nat → ByteArray) : Prop :=
  len = 0 ∨ ∃ b off, a = some ⟨b, off, .none⟩ ∧ b < w.heap.size ∧ ∀ i, i < len → w.cell? ⟨b, off + i * 2, .none⟩ = some (.int k (F i)) ∧ w.cell? ⟨b, off + i * 2 + 1, .none⟩ = some (.string (N i))

theorem walk32 (s : Int) (a : Option Addr) (len cap : Nat) (F : Nat → Int) (N : Nat → ByteArray) (w : World) (h : IsPairs .u32 w a len F N) :
    Calls Yba.prog 3 #[.int .u32 s, .slice a len cap] w fun e w' => e = .returned (.bool true) ∧ Below w.heap.size w w' := by
  rcases h with rfl | ⟨b, off, rfl, hb, hc⟩
  · exact law32_empty s a cap w
  · by_cases hn : 1024 < len
    · exact law32_long s _ len cap w hn
    · exact law32 s F N b off len cap w hb (by omega) hc

set_option maxRecDepth 100000 in
theorem pairs_of32 {H : Type} {enc : TypeId × Value → H} {W : World} {fuel : Nat} {a : Option Addr} {len cap : Nat} {x : DataW H × List MemPlace}
    (h : DataW.trod enc Yba.prog W 0 (fun _ => true) true fuel 23 [.slice a len cap] = some x) : ∃ F N, IsPairs .u32 W a len F N := by
  rcases open_slice_pairs Yba.underlying23 Yba.underlying26 (by kernel_rfl) rfl rfl (by kernel_rfl) (by kernel_rfl) h with ⟨hcs, _⟩ | ⟨ad, len', cap', m, n, V0, V1, D0, D1, P0, P1, hcs, _, hl, _, hm, _, hel⟩
  · simp at hcs
    exact ⟨fun _ => 0, fun _ => ByteArray.empty, .inl hcs.2.1⟩
  · simp at hcs
    obtain ⟨rfl, rfl, rfl⟩ := hcs
    by_cases h0 : len = 0
    · exact ⟨fun _ => 0, fun _ => ByteArray.empty, .inl h0⟩
    have hm' : m = cap := by simpa using hm
    have hlm : ∀ i, i < len → i < m := fun i hi => by omega
    have hF : ∀ i, i < len → ∃ z : Int, V0 i = .int .u32 z := fun i hi => by
      obtain ⟨_, _, h1, _⟩ := hel i (hlm i hi)
      obtain ⟨z, e, _⟩ := DataW.trod_int Yba.underlying22 h1
      simp at e
      exact ⟨z, e⟩
    have hN : ∀ i, i < len → ∃ z : ByteArray, V1 i = .string z := fun i hi => by
      obtain ⟨_, _, _, h1⟩ := hel i (hlm i hi)
      obtain ⟨z, e, _⟩ := DataW.trod_string Yba.underlying9 h1
      simp at e
      exact ⟨z, e⟩
    obtain ⟨F, hF⟩ := choose_lt hF
    obtain ⟨N, hN⟩ := choose_lt (α := ByteArray) hN
    have hc0 := (hel 0 (by omega)).1
    obtain ⟨b, off, rfl⟩ : ∃ b off, ad = ⟨b, off, .none⟩ := by
      have e0 : ad.add (0 * 2) = ad := by simp [Addr.add]
      rw [e0] at hc0
      exact plain_of_cell hc0
    refine ⟨F, N, .inr ⟨b, off, rfl, ?_, fun i hi => ?_⟩⟩
    · have := World.block_lt_of_cell? _ _ hc0
      simpa [Addr.add] using this
    · obtain ⟨c0, c1, _, _⟩ := hel i (hlm i hi)
      rw [Addr.add_lit] at c0 c1
      rw [hF i hi] at c0
      rw [hN i hi] at c1
      exact ⟨c0, by rw [Nat.add_assoc]; exact c1⟩

set_option maxRecDepth 100000 in
theorem lifted32 (os : Os) (started : os.Started) (H : Type) (enc : TypeId × Value → H) :
    ReturnsInHanded {} Yba.checked os 3 .any (Rows.lawS5226CNames32Spec.pre6 enc Yba.prog Yba.f3 Rows.lawS5226CNames32Row.domain false) (Rows.lawS5226CNames32Spec.post enc Yba.prog Yba.f3 false true false false) := by
  refine returnsInHanded_of_change (C := Yba.checked) own started (by kernel_rfl) Yba.func3
    (ChangeSpec.witness6 (enc := enc) (C := Yba.checked) false ⟨#[], #[.int .u32 0, .slice .none 0 0], []⟩ 8 (by kernel_rfl) (by kernel_rfl) (by kernel_rfl) (by kernel_rfl)) ?_
  intro W base args ds gs before hval0 hW _ _
  have hval : ∀ (j : Nat) t v, Yba.f3.params[j]? = some t → args[j]? = some v → Value.okWide Yba.prog W .any base t v := hval0
  have hW' := hW
  obtain ⟨p, q, hA0, hV, rfl, _, _⟩ := hW
  have hA : DataW.TrodAll enc Yba.prog W 0 (fun _ => true) true Yba.f3.params.toList args.toList ds p := hA0
  rw [Yba.params3] at hA hval
  obtain ⟨v0, v1, d0, d1, p0, p1, rfl, rfl, rfl, h0, h1⟩ := trodAll_two hA
  obtain ⟨rfl, rfl⟩ := trodVars_none hV
  obtain ⟨s, rfl, rfl, rfl, ws⟩ := open_int Yba.underlying22 (hval 0 22 v0 rfl rfl) h0
  obtain ⟨a, len, cap, rfl⟩ := okWide_slice Yba.underlying23 (hval 1 23 v1 rfl rfl)
  have k1 := h1
  have lt1 : ∀ x ∈ p1, x.block < W.heap.size := by obtain ⟨m, hm⟩ := k1; exact DataW.trod_lt m _ _ _ hm
  obtain ⟨fuel, hf⟩ := h1
  obtain ⟨F, N, hp⟩ := pairs_of32 hf
  clear hA0 hval0
  refine (walk32 s a len cap F N W hp).mono fun e W' ⟨he, bel⟩ => ?_
  subst he
  exact ⟨_, rfl, _, _, _, [], _, [], hW', trodAll_mk1 (shut_bool Yba.underlying4 _), trodAll_mk2 (shut_int Yba.underlying22 ws) (Below.trod laidOut (by kernel_rfl) (of_decide_eq_true (by kernel_rfl)) k1 bel lt1), rfl, bel.frame _, fun h => by cases h⟩

theorem lawS5226CNames32_proved : Rows.LawS5226CNames32Said :=
  OpenClaim.holds_of_wide 3 Yba.f3 rfl rfl rfl rfl rfl rfl rfl ⟨rfl, rfl, rfl, rfl, rfl⟩ rfl rfl rfl rfl rfl (by kernel_rfl) Yba.func3 (by kernel_rfl)
    (of_decide_eq_true (by kernel_rfl)) (by unfold Func.isWrapper; first | (rw [if_pos (by decide +kernel)]; kernel_rfl) | (rw [if_neg (by decide +kernel)]; exact ⟨rfl, rfl⟩))
    (fun os started H enc _ => lifted32 os started H enc)

end Go.Proofs.Ybulkddfa
