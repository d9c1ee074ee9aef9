import Derived.Test.YbulkddhsLawWalk
import Derived.WalkKit
import Derived.ProofKit
import Derived.OpenShut
import Derived.ShutString
import Derived.ChangeOld
import Derived.Below
namespace Go.Proofs.Ybulkddhs
open Go.ChangeShapes Go.WideShapes Go.ChangeAt Go.RowKit
open Go.ChangeMaps (open_string shut_string)
set_option linter.unusedVariables false

theorem own : ownKnob Yba.prog.godebug = none := by kernel_rfl
theorem laidOut : laidOutB Yba.prog = true := by kernel_rfl

/-- WHAT THE WALK IS TOLD OF A SLICE OF INTEGERS THAT CAME IN: it is nil; or it leads to a row of 'cap' cells, the numbers 'zs' (the first 'len' are its elements, the rest its spare room), each fitting its kind. -/
def IsRow (k : IntKind) (w : World) (a : Option Addr) (len cap : Nat) (zs : List Int) : Prop :=
  (a = none ∧ len = 0 ∧ cap = 0 ∧ zs = []) ∨
  ∃ x, a = some x ∧ len ≤ cap ∧ cap ≤ maxLen ∧ zs.length = cap ∧ (∀ i, i < zs.length → w.cell? (x.add i) = some (.int k (zs.getD i 0))) ∧ ∀ n ∈ zs, (Lit.int k n).wf = true

theorem kept_frame {W w' : World} (h : KeptBut [] W w') (may : MemPlace → Prop) : W.keptBut w' may := by
  refine ⟨h.os, h.output, fun i hi => ?_⟩
  rw [h.block i hi (by simp)]
  split <;> simp_all
theorem kept_same {W w' : World} (h : KeptBut [] W w') {p : MemPlace} (hp : p.block < W.heap.size) : W.sameAt w' p := by
  cases p with
  | cell b o => exact World.cell?_of_block (w := W) (h.block b hp (by simp))
  | map b => exact h.block b hp (by simp)
theorem kept_trod {H : Type} {enc : TypeId × Value → H} {P : Program} {t : TypeId} (hl : laidOutB P = true) (hr : P.readableRec t = true) (hrow : t < P.types.size) {W W' : World} {v : Value} {d : DataW H} {ps : List MemPlace}
    (h : DataW.Trod enc P W 0 (fun _ => true) true t v d ps) (hb : KeptBut [] W W') (hlt : ∀ x ∈ ps, x.block < W.heap.size) :
    DataW.Trod enc P W' 0 (fun b => decide (b < W.heap.size)) true t v d ps :=
  WideElems.Trod_stays hl hr hrow h (fun x hx => kept_same hb (hlt x hx)) (fun x hx => by simpa using hlt x hx)

/-- The elements as natural numbers. -/
theorem row_nats {w : World} {a : Option Addr} {len cap : Nat} {zs : List Int} (h : IsRow .u16 w a len cap zs) :
    ∃ F : Nat → Nat, (∀ i, i < len → F i < 65536) ∧ ∀ i, i < len → ∃ b, a = some b ∧ w.cell? (b.add i) = some (.int .u16 (F i : Nat)) ∧ b.block < w.heap.size := by
  rcases h with ⟨_, rfl, _⟩ | ⟨x, rfl, h1, h2, h3, h4, h5⟩
  · exact ⟨fun _ => 0, fun i hi => by omega, fun i hi => by omega⟩
  · have hz : ∀ i, i < len → 0 ≤ zs.getD i 0 ∧ zs.getD i 0 ≤ 65535 := fun i hi => by
      have hil : i < zs.length := by omega
      have hm : zs.getD i 0 ∈ zs := by
        rw [List.getD, List.getElem?_eq_getElem hil]
        exact List.getElem_mem hil
      have := h5 _ hm
      simpa [Lit.wf, IntKind.min, IntKind.max, IntKind.signed, IntKind.bits] using this
    refine ⟨fun i => (zs.getD i 0).toNat, fun i hi => (by have := hz i hi; show (zs.getD i 0).toNat < 65536; omega), fun i hi => ⟨x, rfl, ?_, ?_⟩⟩
    · have e : (((zs.getD i 0).toNat : Nat) : Int) = zs.getD i 0 := by have := hz i hi; omega
      rw [e]
      exact h4 i (by omega)
    · have := World.block_lt_of_cell? _ _ (h4 i (by omega))
      rw [addr_add_block] at this
      exact this

set_option maxRecDepth 100000 in
set_option maxHeartbeats 1000000 in
theorem long3 (a0 a1 a2 : Int) (a3 : Option Addr) (len3 cap3 : Nat) (a4 : Option Addr) (len4 cap4 : Nat) (a5 a6 : Int) (a7 a8 a9 a10 : Bool) (w : World) (h : 1024 < len3) :
    Calls Yba.prog 3 #[.int .u8 a0, .int .u16 a1, .int .u16 a2, .slice a3 len3 cap3, .slice a4 len4 cap4, .int .i32 a5, .int .i32 a6, .bool a7, .bool a8, .bool a9, .bool a10] w fun e w' => e = .returned (.bool true) ∧ KeptBut [] w w' := by
  have d : decide ((1024 : Int) < len3) = true := by simp; omega
  go_enter Yba.func3, Yba.ntmps3
  go_wp2
  go_ret
  exact ⟨rfl, KeptBut.refl _ _⟩
set_option maxRecDepth 100000 in
set_option maxHeartbeats 1000000 in
theorem long4 (a0 a1 a2 : Int) (a3 : Option Addr) (len3 cap3 : Nat) (a4 : Option Addr) (len4 cap4 : Nat) (a5 a6 : Int) (a7 a8 a9 a10 : Bool) (w : World) (h3 : ¬ 1024 < len3) (h : 1024 < len4) :
    Calls Yba.prog 3 #[.int .u8 a0, .int .u16 a1, .int .u16 a2, .slice a3 len3 cap3, .slice a4 len4 cap4, .int .i32 a5, .int .i32 a6, .bool a7, .bool a8, .bool a9, .bool a10] w fun e w' => e = .returned (.bool true) ∧ KeptBut [] w w' := by
  have d3 : decide ((1024 : Int) < len3) = false := by simp; omega
  have d : decide ((1024 : Int) < len4) = true := by simp; omega
  go_enter Yba.func3, Yba.ntmps3
  go_wp2
  go_ret
  exact ⟨rfl, KeptBut.refl _ _⟩

theorem walk (a0 : Int) (a1 : Int) (a2 : Int) (a3 : Option Addr) (len3 cap3 : Nat) (z3 : List Int) (a4 : Option Addr) (len4 cap4 : Nat) (z4 : List Int) (a5 : Int) (a6 : Int) (a7 : Bool) (a8 : Bool) (a9 : Bool) (a10 : Bool) (w : World) (w0 : (Lit.int .u8 a0).wf = true) (w1 : (Lit.int .u16 a1).wf = true) (w2 : (Lit.int .u16 a2).wf = true) (w3 : IsRow .u16 w a3 len3 cap3 z3) (w4 : IsRow .u16 w a4 len4 cap4 z4) :
    Calls Yba.prog 3 #[.int .u8 a0, .int .u16 a1, .int .u16 a2, .slice a3 len3 cap3, .slice a4 len4 cap4, .int .i32 a5, .int .i32 a6, .bool a7, .bool a8, .bool a9, .bool a10] w fun e w' => e = .returned (.bool true) ∧ KeptBut [] w w' := by
  have x0 : 0 ≤ a0 ∧ a0 ≤ 255 := by simpa [Lit.wf, IntKind.min, IntKind.max, IntKind.signed, IntKind.bits] using w0
  have x1 : 0 ≤ a1 ∧ a1 ≤ 65535 := by simpa [Lit.wf, IntKind.min, IntKind.max, IntKind.signed, IntKind.bits] using w1
  have x2 : 0 ≤ a2 ∧ a2 ≤ 65535 := by simpa [Lit.wf, IntKind.min, IntKind.max, IntKind.signed, IntKind.bits] using w2
  obtain ⟨A, rfl⟩ := Int.eq_ofNat_of_zero_le x0.1
  obtain ⟨B, rfl⟩ := Int.eq_ofNat_of_zero_le x1.1
  obtain ⟨C, rfl⟩ := Int.eq_ofNat_of_zero_le x2.1
  by_cases l3 : 1024 < len3
  · exact long3 _ _ _ _ _ _ _ _ _ _ _ _ _ _ _ w l3
  by_cases l4 : 1024 < len4
  · exact long4 _ _ _ _ _ _ _ _ _ _ _ _ _ _ _ w l3 l4
  obtain ⟨F3, f3, c3⟩ := row_nats w3
  obtain ⟨F4, f4, c4⟩ := row_nats w4
  exact law_any w A (1 + A % 3) B C len3 cap3 len4 cap4 a3 a4 F3 F4 a5 a6 a7 a8 a9 a10 (by omega) rfl (by omega) (by omega) (by omega) (by omega) f3 c3 f4 c4

/-! ### THE ROW's STEP: WRITTEN OUT: LEAVE IT -/
set_option maxRecDepth 100000 in
theorem lifted (os : Os) (started : os.Started) (H : Type) (enc : TypeId × Value → H) :
    ReturnsInHanded {} Yba.checked os 3 .any (Rows.lawS5231CUnionSpec.pre6 enc Yba.prog Yba.f3 Rows.lawS5231CUnionRow.domain false) (Rows.lawS5231CUnionSpec.post enc Yba.prog Yba.f3 false true false false) := by
  refine returnsInHanded_of_change (C := Yba.checked) own started (by kernel_rfl) Yba.func3
    (ChangeSpec.witness6 (enc := enc) (C := Yba.checked) false ⟨#[], #[.int .u8 0, .int .u16 0, .int .u16 0, .slice none 0 0, .slice none 0 0, .int .i32 0, .int .i32 0, .bool false, .bool false, .bool false, .bool false], []⟩ 8 (by kernel_rfl) (by kernel_rfl) (by kernel_rfl) (by kernel_rfl)) ?_
  intro W base args ds gs before hval0 hW hcnd _
  have hval : ∀ (j : Nat) t v, Yba.f3.params[j]? = some t → args[j]? = some v → Value.okWide Yba.prog W .any base t v := hval0
  have hW' := hW
  obtain ⟨p, q, hA0, hV, rfl, hfz, hnd⟩ := hW
  have hA : DataW.TrodAll enc Yba.prog W 0 (fun _ => true) true Yba.f3.params.toList args.toList ds p := hA0
  rw [Yba.params3] at hA hval
  obtain ⟨v0, vs0, d0, ds0, p0, q0, hargs, rfl, rfl, h0, r0⟩ := trodAll_cons hA
  obtain ⟨v1, vs1, d1, ds1, p1, q1, rfl, rfl, rfl, h1, r1⟩ := trodAll_cons r0
  obtain ⟨v2, vs2, d2, ds2, p2, q2, rfl, rfl, rfl, h2, r2⟩ := trodAll_cons r1
  obtain ⟨v3, vs3, d3, ds3, p3, q3, rfl, rfl, rfl, h3, r3⟩ := trodAll_cons r2
  obtain ⟨v4, vs4, d4, ds4, p4, q4, rfl, rfl, rfl, h4, r4⟩ := trodAll_cons r3
  obtain ⟨v5, vs5, d5, ds5, p5, q5, rfl, rfl, rfl, h5, r5⟩ := trodAll_cons r4
  obtain ⟨v6, vs6, d6, ds6, p6, q6, rfl, rfl, rfl, h6, r6⟩ := trodAll_cons r5
  obtain ⟨v7, vs7, d7, ds7, p7, q7, rfl, rfl, rfl, h7, r7⟩ := trodAll_cons r6
  obtain ⟨v8, vs8, d8, ds8, p8, q8, rfl, rfl, rfl, h8, r8⟩ := trodAll_cons r7
  obtain ⟨v9, vs9, d9, ds9, p9, q9, rfl, rfl, rfl, h9, r9⟩ := trodAll_cons r8
  obtain ⟨v10, vs10, d10, ds10, p10, q10, rfl, rfl, rfl, h10, r10⟩ := trodAll_cons r9
  obtain ⟨rfl, rfl, rfl⟩ := trodAll_nil r10
  obtain rfl : args = #[v0, v1, v2, v3, v4, v5, v6, v7, v8, v9, v10] := by cases args; simp_all
  obtain ⟨rfl, rfl⟩ := trodVars_none hV
  obtain ⟨a0, rfl, rfl, rfl, w0⟩ := open_int Yba.underlying5 (hval 0 5 v0 rfl rfl) h0
  obtain ⟨a1, rfl, rfl, rfl, w1⟩ := open_int Yba.underlying22 (hval 1 22 v1 rfl rfl) h1
  obtain ⟨a2, rfl, rfl, rfl, w2⟩ := open_int Yba.underlying22 (hval 2 22 v2 rfl rfl) h2
  obtain ⟨a3, len3, cap3, rfl⟩ := okWide_slice Yba.underlying23 (hval 3 23 v3 rfl rfl)
  have k3 := h3
  have lt3 : ∀ x ∈ p3, x.block < W.heap.size := by obtain ⟨m, hm⟩ := k3; exact DataW.trod_lt m _ _ _ hm
  obtain ⟨z3, w3⟩ : ∃ zs, IsRow .u16 W a3 len3 cap3 zs := by
    obtain ⟨fuel, hf⟩ := h3
    rcases open_ints Yba.underlying23 Yba.underlying22 (by kernel_rfl) hf with ⟨hcs, _⟩ | ⟨x, l, c, zs, hcs, _, hl, hm, hz, _, hcell, hwz⟩
    · simp [Value.cells] at hcs
      obtain ⟨rfl, rfl, rfl⟩ := hcs
      exact ⟨[], .inl ⟨rfl, rfl, rfl, rfl⟩⟩
    · simp [Value.cells] at hcs
      obtain ⟨rfl, rfl, rfl⟩ := hcs
      exact ⟨zs, .inr ⟨_, rfl, hl, hm, by simpa using hz, hcell, hwz⟩⟩
  obtain ⟨a4, len4, cap4, rfl⟩ := okWide_slice Yba.underlying23 (hval 4 23 v4 rfl rfl)
  have k4 := h4
  have lt4 : ∀ x ∈ p4, x.block < W.heap.size := by obtain ⟨m, hm⟩ := k4; exact DataW.trod_lt m _ _ _ hm
  obtain ⟨z4, w4⟩ : ∃ zs, IsRow .u16 W a4 len4 cap4 zs := by
    obtain ⟨fuel, hf⟩ := h4
    rcases open_ints Yba.underlying23 Yba.underlying22 (by kernel_rfl) hf with ⟨hcs, _⟩ | ⟨x, l, c, zs, hcs, _, hl, hm, hz, _, hcell, hwz⟩
    · simp [Value.cells] at hcs
      obtain ⟨rfl, rfl, rfl⟩ := hcs
      exact ⟨[], .inl ⟨rfl, rfl, rfl, rfl⟩⟩
    · simp [Value.cells] at hcs
      obtain ⟨rfl, rfl, rfl⟩ := hcs
      exact ⟨zs, .inr ⟨_, rfl, hl, hm, by simpa using hz, hcell, hwz⟩⟩
  obtain ⟨a5, rfl, rfl, rfl, w5⟩ := open_int Yba.underlying21 (hval 5 21 v5 rfl rfl) h5
  obtain ⟨a6, rfl, rfl, rfl, w6⟩ := open_int Yba.underlying21 (hval 6 21 v6 rfl rfl) h6
  obtain ⟨a7, rfl, rfl, rfl⟩ := open_bool Yba.underlying4 (hval 7 4 v7 rfl rfl) h7
  obtain ⟨a8, rfl, rfl, rfl⟩ := open_bool Yba.underlying4 (hval 8 4 v8 rfl rfl) h8
  obtain ⟨a9, rfl, rfl, rfl⟩ := open_bool Yba.underlying4 (hval 9 4 v9 rfl rfl) h9
  obtain ⟨a10, rfl, rfl, rfl⟩ := open_bool Yba.underlying4 (hval 10 4 v10 rfl rfl) h10
  clear hA0 hval0
  refine (walk a0 a1 a2 a3 len3 cap3 z3 a4 len4 cap4 z4 a5 a6 a7 a8 a9 a10 W w0 w1 w2 w3 w4).mono fun e W' ⟨he, bel⟩ => ?_
  subst he
  exact ⟨_, rfl, _, _, _, [], _, [], hW', trodAll_mk1 (shut_bool Yba.underlying4 _), (trodAll_cons_mk (shut_int Yba.underlying5 w0) (trodAll_cons_mk (shut_int Yba.underlying22 w1) (trodAll_cons_mk (shut_int Yba.underlying22 w2) (trodAll_cons_mk (kept_trod laidOut (by kernel_rfl) (of_decide_eq_true (by kernel_rfl)) k3 bel lt3) (trodAll_cons_mk (kept_trod laidOut (by kernel_rfl) (of_decide_eq_true (by kernel_rfl)) k4 bel lt4) (trodAll_cons_mk (shut_int Yba.underlying21 w5) (trodAll_cons_mk (shut_int Yba.underlying21 w6) (trodAll_cons_mk (shut_bool Yba.underlying4 _) (trodAll_cons_mk (shut_bool Yba.underlying4 _) (trodAll_cons_mk (shut_bool Yba.underlying4 _) (trodAll_cons_mk (shut_bool Yba.underlying4 _) trodAll_mk0))))))))))), rfl, kept_frame bel _, fun h => by cases h⟩

theorem over : Rows.lawS5231CUnionRow.holds Yba.pinned (OpenSpec.ofChange Rows.lawS5231CUnionSpec) :=
  OpenClaim.holds_of_wide 3 Yba.f3 rfl rfl rfl rfl rfl rfl rfl ⟨rfl, rfl, rfl, rfl, rfl⟩ rfl rfl rfl rfl rfl (by kernel_rfl) Yba.func3 (by kernel_rfl)
    (of_decide_eq_true (by kernel_rfl)) (by unfold Func.isWrapper; first | (rw [if_pos (by decide +kernel)]; kernel_rfl) | (rw [if_neg (by decide +kernel)]; exact ⟨rfl, rfl⟩))
    (fun os started H enc _ => lifted os started H enc)

theorem lawS5231CUnion_proved : Rows.LawS5231CUnionSaid := over
end Go.Proofs.Ybulkddhs
