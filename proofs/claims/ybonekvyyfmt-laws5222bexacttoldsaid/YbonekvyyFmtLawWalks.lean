import Derived.Test.YbonekvyyFmtCards
import Derived.Stop.CallBack
import Derived.Stop.IfaceNil
import GoSem.ClaimData
import Derived.WalkKit
import Derived.WalkSpells
import Derived.WalkLawsBesides
namespace Go.Proofs.YbonekvyyFmt
open Go.RowKit Go.Extern.Stop Go.Stop Go.Extern

-- THE CLOSED FACTS FOR A WALK OVER fmt's STOPPED FRONT (function 7), after the kit's CheckFmt, at this program's numbers
theorem call7 (args : Array Value) (w : World) : (callFunc 7 args).run Ybgu.prog w = ((FmtStop.errorf #[9, 29] #[24] args).run Ybgu.prog w).andThen fun v w' => .ok (.value v) w' :=
  run_callFunc_extern Ybgu.func7 (by kernel_rfl) (by kernel_rfl) (by kernel_rfl) (by kernel_rfl) args w
theorem guard_ok (name : String) (w : World) : (FmtStop.guard name).run Ybgu.prog w = .ok () w := by kernel_rfl
theorem fmt0 : FmtStop.printed? ⟨#[117, 110, 107, 110, 111, 119, 110, 32, 100, 101, 108, 116, 97, 32, 102, 111, 114, 109, 97, 116, 32, 37, 100]⟩ 1 = some [(0, 100, false)] := by kernel_rfl
theorem fmt0r (w : World) : (FmtDoors.printed ⟨#[117, 110, 107, 110, 111, 119, 110, 32, 100, 101, 108, 116, 97, 32, 102, 111, 114, 109, 97, 116, 32, 37, 100]⟩ 1).run Ybgu.prog w = .ok [(0, 100, false)] w := by kernel_rfl
def shape3 : List UInt8 := [5, 3, 0, 0, 0, 0, 0, 0, 0, 105, 110, 116]
theorem op3_100 (name : String) (x : Int) (w : World) : (FmtStop.operand name false 100 false (.iface 3 (.int .i64 x))).run Ybgu.prog w = .ok (shape3, Go.Extern.Stop.digits 8 (x % 2 ^ 64).toNat) w := by kernel_rfl
theorem op3_100w (name : String) (x : Int) (w : World) : (FmtStop.operand name true 100 false (.iface 3 (.int .i64 x))).run Ybgu.prog w = .ok (shape3, Go.Extern.Stop.digits 8 (x % 2 ^ 64).toNat) w := by kernel_rfl
theorem ptr32 (w : World) : (FmtStop.ptrTo "errors.errorString").run Ybgu.prog w = .ok 32 w := by kernel_rfl
theorem elem32 (w : World) : (elemOf 32).run Ybgu.prog w = .ok 34 w := by kernel_rfl
theorem isError32 (w : World) : (FmtDoors.textMethod 32 "Error").run Ybgu.prog w = .ok true w := by kernel_rfl
attribute [local go_sem] call7 guard_ok fmt0 fmt0r op3_100 op3_100w ptr32 elem32 isError32

/-- WHAT fmt IS ASKED: the format's bytes, then the operand's shape and value. -/
def reading (n : Int) : List (List UInt8) :=
  [[117, 110, 107, 110, 111, 119, 110, 32, 100, 101, 108, 116, 97, 32, 102, 111, 114, 109, 97, 116, 32, 37, 100], shape3, digits 8 (n % 18446744073709551616).toNat]

set_option maxHeartbeats 400000 in
theorem check_bad (F : Interp) (n : Int) (w : World) (hF : F.answers w.tape) (hn : n < 0 ∨ 3 ≤ n) :
    Calls Ybgu.prog 4 #[.int .i64 n] w fun e w' => e = .returned (.iface 32 (.pointer (some ⟨w.heap.size + 1, 0, none⟩))) ∧
      w' = ((w.alloc (.cells #[.iface 3 (.int .i64 n)] 20)).alloc (.cells #[.string (FmtStop.textOf (F "fmt.errorf" (reading n) 0))] 34)).drew := by
  have hF' := answers_open hF
  rcases hn with hn | hn
  · go_enter Ybgu.func4, Ybgu.ntmps4
    go_wp2
    go_ret
    exact ⟨rfl, rfl⟩
  · have hd : decide (n < 3) = false := by simp; omega
    go_enter Ybgu.func4, Ybgu.ntmps4
    go_wp2
    go_ret
    exact ⟨rfl, rfl⟩

set_option maxHeartbeats 400000 in
theorem check_ok (n : Int) (w : World) (h0 : 0 ≤ n) (h1 : n < 3) :
    Calls Ybgu.prog 4 #[.int .i64 n] w fun e w' => e = .returned .nilIface ∧ w' = w := by
  have hd : decide (n < 3) = true := by simp; omega
  go_enter Ybgu.func4, Ybgu.ntmps4
  go_wp2
  go_ret
  exact ⟨rfl, rfl⟩

set_option maxHeartbeats 400000 in
theorem law_ok (n : Int) (w : World) (h0 : 0 ≤ n) (h1 : n < 3) :
    Calls Ybgu.prog 3 #[.int .i64 n] w fun e w' => e = .returned (.bool true) ∧ Below w.heap.size w w' := by
  have h : n = 0 ∨ n = 1 ∨ n = 2 := by omega
  rcases h with rfl | rfl | rfl
  all_goals
    go_enter Ybgu.func3, Ybgu.ntmps3
    go_wp2_with (go_at_call 4; refine (check_ok _ _ (by omega) (by omega)).mono ?_; rintro e w' ⟨rfl, rfl⟩)
    go_ret
    exact ⟨rfl, Below.refl _ _⟩

set_option maxHeartbeats 400000 in
theorem law_bad (F : Interp) (n : Int) (w : World) (hF : F.answers w.tape) (hn : n < 0 ∨ 3 ≤ n) :
    Calls Ybgu.prog 3 #[.int .i64 n] w fun e w' => e = .returned (.bool true) ∧ Below w.heap.size w w' := by
  have e0 : (n == 0) = false := beq_eq_false_iff_ne.2 (by omega)
  have e1 : (n == 1) = false := beq_eq_false_iff_ne.2 (by omega)
  have e2 : (n == 2) = false := beq_eq_false_iff_ne.2 (by omega)
  go_enter Ybgu.func3, Ybgu.ntmps3
  go_wp2_with (go_at_call 4; refine (check_bad F n _ hF hn).mono ?_; rintro e w' ⟨rfl, rfl⟩)
  go_ret
  exact ⟨rfl, (((Below.refl _ _).alloc (Nat.le_refl _) _).alloc (by simp) _).drew⟩

end Go.Proofs.YbonekvyyFmt
