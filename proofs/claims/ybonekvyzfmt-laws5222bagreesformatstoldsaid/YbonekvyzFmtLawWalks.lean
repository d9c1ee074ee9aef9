import Derived.Test.YbonekvyzFmtCards
import Derived.Stop.CallBack
import Derived.Stop.IfaceNil
import GoSem.ClaimData
import Derived.WalkKit
import Derived.WalkSpells
import Derived.WalkLawsBesides
import Derived.LoopN
namespace Go.Proofs.YbonekvyzFmt
open Go.RowKit Go.Extern.Stop Go.Stop Go.Extern

-- THE CLOSED FACTS FOR A WALK OVER fmt's STOPPED FRONT (function 8), after the kit's CheckFmt, at this program's numbers
theorem call8 (args : Array Value) (w : World) : (callFunc 8 args).run Ybgv.prog w = ((FmtStop.errorf #[9, 31] #[26] args).run Ybgv.prog w).andThen fun v w' => .ok (.value v) w' :=
  run_callFunc_extern Ybgv.func8 (by kernel_rfl) (by kernel_rfl) (by kernel_rfl) (by kernel_rfl) args w
theorem guard_ok (name : String) (w : World) : (FmtStop.guard name).run Ybgv.prog w = .ok () w := by kernel_rfl
theorem fmt0 : FmtStop.printed? ⟨#[117, 110, 107, 110, 111, 119, 110, 32, 100, 101, 108, 116, 97, 32, 102, 111, 114, 109, 97, 116, 32, 37, 100]⟩ 1 = some [(0, 100, false)] := by kernel_rfl
theorem fmt0r (w : World) : (FmtDoors.printed ⟨#[117, 110, 107, 110, 111, 119, 110, 32, 100, 101, 108, 116, 97, 32, 102, 111, 114, 109, 97, 116, 32, 37, 100]⟩ 1).run Ybgv.prog w = .ok [(0, 100, false)] w := by kernel_rfl
def shape3 : List UInt8 := [5, 3, 0, 0, 0, 0, 0, 0, 0, 105, 110, 116]
theorem op3_100 (name : String) (x : Int) (w : World) : (FmtStop.operand name false 100 false (.iface 3 (.int .i64 x))).run Ybgv.prog w = .ok (shape3, Go.Extern.Stop.digits 8 (x % 2 ^ 64).toNat) w := by kernel_rfl
theorem op3_100w (name : String) (x : Int) (w : World) : (FmtStop.operand name true 100 false (.iface 3 (.int .i64 x))).run Ybgv.prog w = .ok (shape3, Go.Extern.Stop.digits 8 (x % 2 ^ 64).toNat) w := by kernel_rfl
theorem ptr34 (w : World) : (FmtStop.ptrTo "errors.errorString").run Ybgv.prog w = .ok 34 w := by kernel_rfl
theorem elem34 (w : World) : (elemOf 34).run Ybgv.prog w = .ok 36 w := by kernel_rfl
theorem isError34 (w : World) : (FmtDoors.textMethod 34 "Error").run Ybgv.prog w = .ok true w := by kernel_rfl
attribute [local go_sem] call8 guard_ok fmt0 fmt0r op3_100 op3_100w ptr34 elem34 isError34

/-- WHAT fmt IS ASKED: the format's bytes, then the operand's shape and value. -/
def reading (n : Int) : List (List UInt8) :=
  [[117, 110, 107, 110, 111, 119, 110, 32, 100, 101, 108, 116, 97, 32, 102, 111, 114, 109, 97, 116, 32, 37, 100], shape3, digits 8 (n % 18446744073709551616).toNat]

set_option maxHeartbeats 400000 in
theorem check_bad (F : Interp) (n : Int) (w : World) (hF : F.answers w.tape) (hn : n < 0 ∨ 3 ≤ n) :
    Calls Ybgv.prog 5 #[.int .i64 n] w fun e w' => e = .returned (.iface 34 (.pointer (some ⟨w.heap.size + 1, 0, none⟩))) ∧
      w' = ((w.alloc (.cells #[.iface 3 (.int .i64 n)] 20)).alloc (.cells #[.string (FmtStop.textOf (F "fmt.errorf" (reading n) 0))] 36)).drew := by
  have hF' := answers_open hF
  rcases hn with hn | hn
  · go_enter Ybgv.func5, Ybgv.ntmps5
    go_wp2
    go_ret
    exact ⟨rfl, rfl⟩
  · have hd : decide (n < 3) = false := by simp; omega
    go_enter Ybgv.func5, Ybgv.ntmps5
    go_wp2
    go_ret
    exact ⟨rfl, rfl⟩

set_option maxHeartbeats 400000 in
theorem check_ok (n : Int) (w : World) (h0 : 0 ≤ n) (h1 : n < 3) :
    Calls Ybgv.prog 5 #[.int .i64 n] w fun e w' => e = .returned .nilIface ∧ w' = w := by
  have hd : decide (n < 3) = true := by simp; omega
  go_enter Ybgv.func5, Ybgv.ntmps5
  go_wp2
  go_ret
  exact ⟨rfl, rfl⟩


set_option maxHeartbeats 400000 in
theorem formats_any (w : World) :
    Calls Ybgv.prog 4 #[] w fun e w' => e = .returned (.slice (some ⟨w.heap.size, 0, .none⟩) 3 3) ∧ w' = w.alloc (.cells #[.int .i64 0, .int .i64 1, .int .i64 2] 24) := by
  have hmk : ∀ w, (Instr.makeSlice 22 (.int .i64 3) (.int .i64 3)).run Ybgv.prog w = .ok (.slice (some ⟨w.heap.size, 0, .none⟩) 3 3) (w.alloc (.cells #[.int .i64 0, .int .i64 0, .int .i64 0] 24)) := fun _ => by kernel_rfl
  go_enter Ybgv.func4, Ybgv.ntmps4
  go_wp2
  refine wp_loop_rounds 4 ?_
  rw [rounds_succ]; go_wp2
  rw [rounds_succ]; go_wp2
  rw [rounds_succ]; go_wp2
  rw [rounds_succ]; go_wp2
  go_ret
  exact ⟨rfl, rfl⟩

set_option maxHeartbeats 400000 in
theorem law_ok (n : Int) (w : World) (h0 : 0 ≤ n) (h1 : n < 3) :
    Calls Ybgv.prog 3 #[.int .i64 n] w fun e w' => e = .returned (.bool true) ∧ Below w.heap.size w w' := by
  have h : n = 0 ∨ n = 1 ∨ n = 2 := by omega
  rcases h with rfl | rfl | rfl
  all_goals
    go_enter Ybgv.func3, Ybgv.ntmps3
    go_wp2_with (first | (go_at_call 4; refine (formats_any _).mono ?_; rintro e w' ⟨rfl, rfl⟩) | (go_at_call 5; refine (check_ok _ _ (by omega) (by omega)).mono ?_; rintro e w' ⟨rfl, rfl⟩))
    refine wp_loop_rounds 4 ?_
    rw [rounds_succ]; go_wp2
    rw [rounds_succ]; go_wp2
    rw [rounds_succ]; go_wp2
    rw [rounds_succ]; go_wp2_with (first | (go_at_call 5; refine (check_ok _ _ (by omega) (by omega)).mono ?_; rintro e w' ⟨rfl, rfl⟩))
    go_ret
    refine ⟨rfl, ?_⟩
    first | exact (Below.refl _ _).alloc (Nat.le_refl _) _ | exact ((Below.refl _ _).alloc (Nat.le_refl _) _).drew

set_option maxHeartbeats 400000 in
theorem law_bad (F : Interp) (n : Int) (w : World) (hF : F.answers w.tape) (hn : n < 0 ∨ 3 ≤ n) :
    Calls Ybgv.prog 3 #[.int .i64 n] w fun e w' => e = .returned (.bool true) ∧ Below w.heap.size w w' := by
  have e0 : ((0 : Int) == n) = false := beq_eq_false_iff_ne.2 (by omega)
  have e1 : ((1 : Int) == n) = false := beq_eq_false_iff_ne.2 (by omega)
  have e2 : ((2 : Int) == n) = false := beq_eq_false_iff_ne.2 (by omega)
  go_enter Ybgv.func3, Ybgv.ntmps3
  go_wp2_with (first | (go_at_call 4; refine (formats_any _).mono ?_; rintro e w' ⟨rfl, rfl⟩))
  refine wp_loop_rounds 4 ?_
  rw [rounds_succ]; go_wp2
  rw [rounds_succ]; go_wp2
  rw [rounds_succ]; go_wp2
  rw [rounds_succ]; go_wp2_with (first | (go_at_call 5; refine (check_bad F _ _ (by exact hF) hn).mono ?_; rintro e w' ⟨rfl, rfl⟩))
  go_ret
  refine ⟨rfl, ?_⟩
  exact ((((Below.refl _ _).alloc (Nat.le_refl _) _).alloc (by simp) _).alloc (by simp; omega) _).drew

end Go.Proofs.YbonekvyzFmt
