import Derived.Test.YbulkddhsRows
import Derived.Test.YbulkddhsLawPop
import Derived.WalkKit
import Derived.WalkSpells
import Derived.WalkLawsBesides
import Derived.Laws.BitsAllLaws
namespace Go.Proofs.Ybulkddhs
open Go.RowKit

theorem u64_and_lit (x : Nat) (m : Nat) (hx : x < 18446744073709551616) (hm : m < 18446744073709551616) : bits .and .u64 (x : Int) (m : Int) = ((x &&& m : Nat) : Int) := u64_and_nat x m hx hm

theorem and127 (x : Nat) (h : x < 9223372036854775808) : bits .and .i64 (x : Int) 127 = ((x % 128 : Nat) : Int) := by
  show IntKind.i64.wrap ((BitVec.ofInt 64 (x : Int) &&& BitVec.ofInt 64 ((127 : Nat) : Int)).toNat : Int) = _
  rw [BitVec.toNat_and, ofInt_u64 x (by omega), ofInt_u64 127 (by omega), show (127 : Nat) = 2 ^ 7 - 1 from rfl, Nat.and_two_pow_sub_one_eq_mod, IntKind.wrap_i64]
  omega

set_option maxHeartbeats 400000 in
theorem ones_any (x : Nat) (hx : x < 18446744073709551616) (w : World) :
    Calls Yba.prog 12 #[.int .u64 x] w fun e w' => e = .returned (.int .i64 (pop x : Nat)) ∧ w' = w := by
  have hp := ones_plain x
  simp only [stp, third] at hp
  rw [show msk 1 32 = 6148914691236517205 by decide, show msk 2 16 = 3689348814741910323 by decide, show msk 4 8 = 1085102592571150095 by decide, show (2 : Nat) ^ 1 = 2 from rfl, show (2 : Nat) ^ 2 = 4 from rfl] at hp
  have a1 : bits .and .u64 ((x : Int) / 2) 6148914691236517205 = ((x / 2 &&& 6148914691236517205 : Nat) : Int) := u64_and_lit (x / 2) 6148914691236517205 (by omega) (by omega)
  have a2 : bits .and .u64 (x : Int) 6148914691236517205 = ((x &&& 6148914691236517205 : Nat) : Int) := u64_and_lit x 6148914691236517205 hx (by omega)
  have l1 : x / 2 &&& 6148914691236517205 ≤ 6148914691236517205 := Nat.and_le_right
  have l2 : x &&& 6148914691236517205 ≤ 6148914691236517205 := Nat.and_le_right
  generalize x / 2 &&& 6148914691236517205 = A at *
  generalize x &&& 6148914691236517205 = B at *
  have a3 : bits .and .u64 (((A : Int) + (B : Int)) / 4) 3689348814741910323 = (((A + B) / 4 &&& 3689348814741910323 : Nat) : Int) := u64_and_lit ((A + B) / 4) 3689348814741910323 (by omega) (by omega)
  have a4 : bits .and .u64 ((A : Int) + (B : Int)) 3689348814741910323 = (((A + B) &&& 3689348814741910323 : Nat) : Int) := u64_and_lit (A + B) 3689348814741910323 (by omega) (by omega)
  have l3 : (A + B) / 4 &&& 3689348814741910323 ≤ 3689348814741910323 := Nat.and_le_right
  have l4 : (A + B) &&& 3689348814741910323 ≤ 3689348814741910323 := Nat.and_le_right
  generalize (A + B) / 4 &&& 3689348814741910323 = C at *
  generalize (A + B) &&& 3689348814741910323 = D at *
  have a5 : bits .and .u64 (((C : Int) + (D : Int)) / 16 + ((C : Int) + (D : Int))) 1085102592571150095 = (((C + D) / 16 + (C + D) &&& 1085102592571150095 : Nat) : Int) := u64_and_lit ((C + D) / 16 + (C + D)) 1085102592571150095 (by omega) (by omega)
  have l5 : ((C + D) / 16 + (C + D)) &&& 1085102592571150095 ≤ 1085102592571150095 := Nat.and_le_right
  generalize ((C + D) / 16 + (C + D)) &&& 1085102592571150095 = E at *
  have a6 : bits .and .i64 ((E : Int) + (E : Int) / 256 + ((E : Int) + (E : Int) / 256) / 65536 + ((E : Int) + (E : Int) / 256 + ((E : Int) + (E : Int) / 256) / 65536) / 4294967296) 127 = ((pop x : Nat) : Int) := by
    rw [← hp]
    exact and127 (E + E / 256 + (E + E / 256) / 65536 + (E + E / 256 + (E + E / 256) / 65536) / 4294967296) (by omega)
  clear hp
  go_enter Yba.func12, Yba.ntmps12
  go_wp2
  go_ret
  exact ⟨rfl, rfl⟩

end Go.Proofs.Ybulkddhs
