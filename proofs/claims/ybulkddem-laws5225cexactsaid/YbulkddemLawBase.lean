import Derived.Test.YbulkddemRows
import Derived.WalkKit
import Derived.WalkSpells
import Derived.WalkLawsBesides
import Derived.Laws.BytesArg
import Derived.Laws.BytesString
import Derived.Deep.Upon
import Derived.Deep.RegionHeld3
import Derived.Lib.AppendZeros
namespace Go.Proofs.Ybulkddem
open Go.RowKit

/-- Bytes as cells. -/
def cellsOf (xs : List Int) : List Value := xs.map (Value.int .u8)
theorem cellsOf_length (xs : List Int) : (cellsOf xs).length = xs.length := by simp [cellsOf]
theorem cellsOf_one (xs : List Int) : ∀ u ∈ cellsOf xs, u.oneCell' = true := by
  intro u hu
  obtain ⟨_, _, rfl⟩ := List.mem_map.1 hu
  rfl
theorem cellsOf_append (xs ys : List Int) : cellsOf (xs ++ ys) = cellsOf xs ++ cellsOf ys := by simp [cellsOf]

/-- A slice value that reads, in w, as the bytes xs. -/
def Reads (w : World) (v : Value) (xs : List Int) : Prop :=
  ∃ a c, v = .slice a xs.length c ∧ (a = .none → xs = []) ∧ ∀ j u, (cellsOf xs)[j]? = some u → ∃ x, a = some x ∧ w.cell? (x.add j) = some u

theorem Reads.carry {w w' : World} {v : Value} {xs : List Int} (h : Reads w v xs) (hc : ∀ (x : Addr) (u : Value), v.ownBlock = some x.block → w.cell? x = some u → w'.cell? x = some u) : Reads w' v xs := by
  obtain ⟨a, c, rfl, hn, hx⟩ := h
  refine ⟨a, c, rfl, hn, fun j u hu => ?_⟩
  obtain ⟨x, rfl, hcell⟩ := hx j u hu
  refine ⟨x, rfl, hc _ _ ?_ hcell⟩
  simp [Value.ownBlock, Addr.add]
  split <;> rfl

theorem conv_reads {w : World} {v : Value} {xs : List Int} (h : Reads w v xs) : (convert 22 9 v).run Yba.prog w = .ok (.string (strOfNums xs)) w := by
  obtain ⟨a, c, rfl, hn, hx⟩ := h
  cases a with
  | none =>
    obtain rfl := hn rfl
    rw [run_convert_bytes_nil w 22 5 Yba.underlying22 Yba.underlying5 _ c 9 Yba.underlying9]
    rfl
  | some x =>
    have hl : (loadCells x xs.length).run Yba.prog w = .ok (xs.map (Value.int .u8)).toArray w := by
      have := run_loadCells_list (P := Yba.prog) w x (cellsOf xs) (fun j u hj => by
        obtain ⟨y, e, hc⟩ := hx j u hj
        cases e
        exact hc)
      simpa [cellsOf] using this
    rw [run_convert_bytes_string w 22 9 5 _ xs.length c Yba.underlying22 Yba.underlying5 Yba.underlying9, run_bytesToString w _ xs.length c xs hl, foldl_push_bytes]
    simp [strOfNums, ByteArray.empty, ByteArray.emptyWithCapacity]
    rfl

theorem Reads.src {w : World} {v : Value} {xs : List Int} (h : Reads w v xs) : Src Yba.prog 1 22 v xs.length (cellsOf xs) w := by
  obtain ⟨a, c, rfl, hn, hx⟩ := h
  cases a with
  | none =>
    obtain rfl := hn rfl
    exact Src.ofNil w Yba.underlying22 c
  | some x =>
    refine Src.ofSlice w Yba.underlying22 x _ c (cellsOf xs) (by simp [cellsOf]) (fun j u hj => ?_) (cellsOf_one xs)
    obtain ⟨y, e, hc⟩ := hx j u hj
    cases e
    exact hc

set_option maxHeartbeats 400000 in
/-- bytes.Equal on two slices that read the same. -/
theorem equal_same {w : World} {v1 v2 : Value} {xs : List Int} (h1 : Reads w v1 xs) (h2 : Reads w v2 xs) :
    Calls Yba.prog 6 #[v1, v2] w fun e w' => e = .returned (.bool true) ∧ w' = w := by
  have c1 := conv_reads h1
  have c2 := conv_reads h2
  obtain ⟨a1, k1, rfl, _, _⟩ := h1
  obtain ⟨a2, k2, rfl, _, _⟩ := h2
  go_enter Yba.func6, Yba.ntmps6
  go_wp2
  go_ret
  exact ⟨by simp, rfl⟩

theorem andNot3 (n : Nat) (h : n ≤ 100000) : bits .andNot .i64 ((n : Int) + 3) 3 = (((n + 3) / 4 * 4 : Nat) : Int) := by
  have e : (n : Int) + 3 = ((n + 3 : Nat) : Int) := by omega
  rw [e]
  have hm : n + 3 ≤ 100003 := by omega
  generalize n + 3 = m at hm
  show IntKind.i64.wrap ((BitVec.ofInt 64 (m : Int) &&& ~~~BitVec.ofInt 64 ((3 : Nat) : Int)).toNat : Int) = _
  rw [BitVec.toNat_and, BitVec.toNat_not, ofInt_u64 m (by omega), ofInt_u64 3 (by omega)]
  have e : 2 ^ 64 - 1 - 3 = 18446744073709551612 := by decide
  rw [e, nat_hi64_2, Nat.mod_eq_of_lt (by omega), IntKind.wrap_i64]
  omega

/-- The data rounded up to four. -/
def up4 (n : Nat) : Nat := (n + 3) / 4 * 4

set_option maxHeartbeats 400000 in
/-- (block).size. -/
theorem size_any (typ : ByteArray) (a : Option Addr) (n c : Nat) (w : World) (hn : n ≤ 4096) :
    Calls Yba.prog 8 #[.agg #[.string typ, .slice a n c]] w fun e w' => e = .returned (.int .i64 (8 + (up4 n : Nat))) ∧ w' = w.alloc (.cells #[.string typ, .slice a n c] 24) := by
  have hd := andNot3 n (by omega)
  have hb : (up4 n : Int) ≤ 4099 := by unfold up4; omega
  have he : (((n + 3) / 4 * 4 : Nat) : Int) = (up4 n : Nat) := rfl
  rw [he] at hd
  have hn' : (n : Int) ≤ 4096 := by omega
  go_enter Yba.func8, Yba.ntmps8
  go_wp2
  go_ret
  exact ⟨rfl, rfl⟩

theorem info5 : (Yba.prog.info? 5).map (fun i => (i.zero, i.size, i.bytes)) = some (some (.int .u8 0), 1, 1) := by kernel_rfl

/-- A string of k zero bytes. -/
def zeroStr (k : Nat) : ByteArray := ⟨(List.replicate k 0).toArray⟩
theorem zeroStr_size (k : Nat) : (zeroStr k).size = k := by simp [zeroStr, ByteArray.size]

set_option linter.unusedSimpArgs false in
/-- append(s, make([]byte, k)...) runs as append(s, z...) does, z the string of k zero bytes. -/
theorem run_zeros (w : World) (ty : TypeId) (base : Option Addr) (sLen sCap k : Nat) (h : sLen + k ≤ 140737488355328) :
    (Builtin.append_ #[22, 3] ty #[.slice base sLen sCap, .int .i64 k]).run Yba.prog w = (Builtin.append_ #[22, 9] ty #[.slice base sLen sCap, .string (zeroStr k)]).run Yba.prog w := by
  obtain ⟨i, hi, hz0, hz1, hz2⟩ := info_parts info5
  have hw : IntKind.i64.wrap (k : Int) = k := by rw [IntKind.wrap_i64]; omega
  have hneg : ¬ ((k : Int) < 0) := by omega
  have h48i : ¬ (281474976710656 < (k : Int)) := by omega
  have h63' : ¬ (9223372036854775807 < (sLen : Int) + (k : Int)) := by omega
  have hf := fun w' => firstCells_string (P := Yba.prog) (zeroStr k) w'
  have hzc : (byteCells (zeroStr k)).toArray = Builtin.zeroCells #[.int .u8 0] k := by
    apply Array.ext
    · simp [size_zeroCells, byteCells_length, zeroStr_size]
    · intro j h1 h2
      simp [byteCells, zeroStr, Builtin.zeroCells, Nat.mod_one]
  rw [zeroStr_size] at hf
  have hzz : k = 0 → Builtin.zeroCells #[.int .u8 0] k = (#[] : Array Value) := by
    rintro rfl
    apply Array.eq_empty_of_size_eq_zero
    simp [size_zeroCells]
  have hvc : (Value.int .u8 0).cells = #[.int .u8 0] := rfl
  have hck : ∀ W : World, (if k * i.size = 0 then (pure #[] : Sem (Array Value)) else do pure (Builtin.zeroCells (← zeroValue 5).cells k)).run Yba.prog W = .ok (Builtin.zeroCells #[.int .u8 0] k) W := by
    intro W
    rw [hz1, Nat.mul_one]
    by_cases hk : k = 0
    · rw [if_pos hk, hzz hk]; rfl
    · rw [if_neg hk]; simp [zeroValue, typeInfo, hi, hz0, hvc]
  have hw0 : IntKind.i64.wrap 0 = 0 := by decide
  by_cases hr : sLen + k ≤ sCap
  · by_cases hk : k = 0
    · have hz := hzz hk
      subst hk
      simp only [Nat.add_zero] at hr
      simp [Builtin.append_, run_underlying Yba.underlying22, run_underlying Yba.underlying3, run_underlying Yba.underlying9, sizeOf, typeInfo, zeroValue, hi, hz0, hz1, hz2, asInt, asIntOf, hw0, Builtin.lenOf, zeroStr_size, hr, hf, hzc, hz]
    · simp [Builtin.append_, run_underlying Yba.underlying22, run_underlying Yba.underlying3, run_underlying Yba.underlying9, sizeOf, typeInfo, zeroValue, hi, hz0, hz1, hz2, asInt, asIntOf, hw, hneg, h48i, Builtin.lenOf, zeroStr_size, hr, hf, hk, hzc]
      rfl
  · have h48' : ¬ (281474976710656 < Builtin.nextslicecap (sLen + k) sCap) := by have := growslice_fits (need := sLen + k) (old := sCap) (bytes := 1) (by omega) (by omega); omega
    by_cases hk : k = 0
    · have hz := hzz hk
      subst hk
      simp only [Nat.add_zero] at hr h48'
      have h63 : ¬ (9223372036854775807 < (sLen : Int)) := by omega
      simp [Builtin.append_, run_underlying Yba.underlying22, run_underlying Yba.underlying3, run_underlying Yba.underlying9, sizeOf, typeInfo, zeroValue, hi, hz0, hz1, hz2, asInt, asIntOf, hw0, Builtin.lenOf, zeroStr_size, hr, hf, hzc, hz, h63, h48', Question.forced]
    · simp [Builtin.append_, run_underlying Yba.underlying22, run_underlying Yba.underlying3, run_underlying Yba.underlying9, sizeOf, typeInfo, zeroValue, hi, hz0, hz1, hz2, asInt, asIntOf, hw, hneg, h48i, Builtin.lenOf, zeroStr_size, hr, hf, hk, hzc, h63', h48', Question.forced]
      rfl

end Go.Proofs.Ybulkddem
