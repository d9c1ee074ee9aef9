import Derived.Test.YbulkddhsLawOr
import Derived.Laws.StructEq
namespace Go.Proofs.Ybulkddhs
open Go.RowKit

/-- A ring equals itself. -/
theorem ring_same (w : World) (SL so sn slo stop : Nat) (hi : Int) (f : Bool) :
    (binOp .neq 32 (.agg #[.pointer (some ⟨SL, 0, .none⟩), .int .i32 so, .int .i32 sn, .int .i32 slo, .int .i32 stop, .int .i32 hi, .bool f]) (.agg #[.pointer (some ⟨SL, 0, .none⟩), .int .i32 so, .int .i32 sn, .int .i32 slo, .int .i32 stop, .int .i32 hi, .bool f])).run Yba.prog w = .ok (.bool false) w := by
  obtain ⟨j, hj, hz⟩ := info41'
  have hptr : ∀ w d, (Op.equalIn (d + 1) 30 (.pointer (some ⟨SL, 0, .none⟩)) (.pointer (some ⟨SL, 0, .none⟩))).run Yba.prog w = .ok true w := fun w d => by
    simp [Op.equalIn, run_underlying Yba.underlying30, sizeOf, typeInfo, hj, run_sameAddr_same]
  have hptr9 : ∀ w, (Op.equalIn 9999 30 (.pointer (some ⟨SL, 0, .none⟩)) (.pointer (some ⟨SL, 0, .none⟩))).run Yba.prog w = .ok true w := fun w => hptr w 9998
  have u21 := Yba.underlying21
  have a21 := Yba.isAgg21
  have z21 := Yba.sizeOf21
  have u30 := Yba.underlying30
  have a30 := Yba.isAgg30
  have z30 := Yba.sizeOf30
  have u4 := Yba.underlying4
  have a4 := Yba.isAgg4
  have z4 := Yba.sizeOf4
  have hS : Yba.prog.underlying 32 = some (.struct (Yba.prog.fieldsOf 32)) := by kernel_rfl
  have hp : Yba.prog.stoodInHeld 32 = false := by kernel_rfl
  rw [run_neq_struct, show (10000 : Nat) = 9999 + 1 from rfl, run_equalIn_agg w 9999 32 _ _ hS hp]
  simp only [Program.fieldsOf, Yba.underlying32]
  go_simp

theorem ptr_self (w : World) (x : Addr) : (binOp .eql 30 (.pointer (some x)) (.pointer (some x))).run Yba.prog w = .ok (.bool true) w := by
  obtain ⟨j, hj, hz⟩ := info41'
  exact run_eql_ptr_same w x Yba.underlying30 hj
theorem nil_self (w : World) : (binOp .eql 30 (.pointer none) (.pointer none)).run Yba.prog w = .ok (.bool true) w := by
  have h : ∀ d : Nat, (Op.equalIn (d + 1) 30 (.pointer none) (.pointer none)).run Yba.prog w = .ok true w := fun d => by
    simp [Op.equalIn, run_underlying Yba.underlying30]
  simp only [binOp]
  simp [Op.equal, Op.maxDepth, h 9999]

end Go.Proofs.Ybulkddhs
