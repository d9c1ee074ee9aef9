import Derived.Test.YbulkddemLawBase
namespace Go.Proofs.Ybulkddem
open Go.RowKit

/-- Below block number B the world w' is as w was (nothing is said of the tape). -/
structure Under (B : Nat) (w w' : World) : Prop where
  os : w'.os = w.os
  output : w'.output = w.output
  size : w.heap.size ≤ w'.heap.size
  block : ∀ k, k < B → w'.heap[k]? = w.heap[k]?

theorem Under.refl (B : Nat) (w : World) : Under B w w := ⟨rfl, rfl, Nat.le_refl _, fun _ _ => rfl⟩
theorem Under.trans {B : Nat} {a b c : World} (h : Under B a b) (k : Under B b c) : Under B a c :=
  ⟨k.os.trans h.os, k.output.trans h.output, Nat.le_trans h.size k.size, fun i hi => (k.block i hi).trans (h.block i hi)⟩
theorem Under.mono {B B' : Nat} {w w' : World} (h : Under B w w') (hB : B' ≤ B) : Under B' w w' := ⟨h.os, h.output, h.size, fun k hk => h.block k (Nat.lt_of_lt_of_le hk hB)⟩
theorem Under.of {B : Nat} {w w' : World} (h : Below B w w') : Under B w w' := ⟨h.os, h.output, h.size, h.block⟩
theorem Under.drew {B : Nat} {a w : World} (h : Under B a w) : Under B a w.drew := ⟨h.os, h.output, h.size, h.block⟩
theorem Under.alloc {B : Nat} {a w : World} (h : Under B a w) (hB : B ≤ w.heap.size) (o : Obj) : Under B a (w.alloc o) :=
  h.trans ⟨rfl, rfl, by simp, fun k hk => Below.heap_alloc _ _ _ (by omega)⟩
theorem Under.upon {B : Nat} {a W w : World} {ao : Option Addr} {b off len cap m r : Nat} {olds ks : List Value} {v : Value} (h : Under B a W) (hB : B ≤ W.heap.size) (hb : B ≤ b)
    (hu : Upon W 5 1 ao b off len cap olds w v m ks r) : Under B a w :=
  h.trans ⟨hu.kept.1, hu.kept.2.1, hu.kept.size, fun k hk => hu.kept.block (by omega) (fun p ⟨j, _, e⟩ e2 => by
    subst e
    have : b = k := e2
    omega)⟩
theorem Under.frame {W w' : World} (h : Under W.heap.size W w') (may : MemPlace → Prop) : W.keptBut w' may := by
  refine ⟨h.os, h.output, fun i hi => ?_⟩
  rw [h.block i hi]
  split <;> simp_all
theorem Under.same {W w' : World} (h : Under W.heap.size W w') {p : MemPlace} (hp : p.block < W.heap.size) : W.sameAt w' p := by
  cases p with
  | cell b o => exact World.cell?_of_block (w := W) (h.block b hp)
  | map b => exact h.block b hp
theorem Under.trod {H : Type} {enc : TypeId × Value → H} {P : Program} {t : TypeId} (hl : laidOutB P = true) (hr : P.readableRec t = true) (hrow : t < P.types.size) {W W' : World} {v : Value} {d : DataW H} {ps : List MemPlace}
    (h : DataW.Trod enc P W 0 (fun _ => true) true t v d ps) (hb : Under W.heap.size W W') (hlt : ∀ x ∈ ps, x.block < W.heap.size) :
    DataW.Trod enc P W' 0 (fun b => decide (b < W.heap.size)) true t v d ps :=
  WideElems.Trod_stays hl hr hrow h (fun x hx => hb.same (hlt x hx)) (fun x hx => by simpa using hlt x hx)

/-- What is read is read later too. -/
theorem Reads.later {w w' : World} {v : Value} {xs : List Int} (h : Reads w v xs) (hu : Under w.heap.size w w') : Reads w' v xs :=
  h.carry fun x _ _ hc => (World.cell?_of_block (hu.block x.block (World.block_lt_of_cell? _ _ hc))).trans hc

/-- A row of the call's own, known whole, as a slice to be appended to. -/
theorem came_block {W : World} {g n cap : Nat} {cur : List Value} (hg : W.heap[g]? = some (.cells cur.toArray 5 (0, 0))) (hcur : cur.length = cap) (hn : n ≤ cap) :
    Came W 1 (some ⟨g, 0, .none⟩) g 0 n cap (cur.take n) := by
  have hcell : ∀ j, W.cell? ⟨g, j, .none⟩ = cur[j]? := fun j => by
    rw [cell_of_row W g j cur.toArray 5 (0, 0) hg]; simp
  refine ⟨hn, fun _ => rfl, fun _ => ?_, by simp; omega, fun j u hu => ?_, fun j hj => ⟨?_, ?_⟩⟩
  · rcases Nat.lt_or_ge g W.heap.size with h | h
    · exact h
    · rw [Array.getElem?_eq_none h] at hg; cases hg
  · rw [hcell, Nat.zero_add]
    rw [List.getElem?_take] at hu
    split at hu
    · exact hu
    · cases hu
  · rw [hcell]
    rw [List.getElem?_eq_getElem (by omega)]; rfl
  · simp [World.frozen?, hg]

/-- A string's bytes as numbers. -/
def strNums (s : ByteArray) : List Int := s.data.toList.map fun b => (b.toNat : Int)
theorem byteCells_nums (s : ByteArray) : byteCells s = cellsOf (strNums s) := by simp [byteCells, cellsOf, strNums]
theorem strNums_length (s : ByteArray) : (strNums s).length = s.size := by
  unfold strNums
  rw [List.length_map, Array.length_toList]
  rfl
theorem zeroCells_nums (k : Nat) : byteCells (zeroStr k) = cellsOf (List.replicate k 0) := by
  rw [byteCells_nums]
  congr 1
  simp [strNums, zeroStr]

/-- What has been appended is read back. -/
theorem upon_reads {W w : World} {ao : Option Addr} {b off len cap m r : Nat} {os ks : List Int} {v : Value} (hc : Came W 1 ao b off len cap (cellsOf os)) (hmax : cap ≤ maxLen)
    (hu : Upon W 5 1 ao b off len cap (cellsOf os) w v m (cellsOf ks) r) : Reads w v (os ++ ks) := by
  have ho := hc.oldsLen
  have hk := hu.ksLen
  rw [cellsOf_length, Nat.mul_one] at ho hk
  by_cases hpos : 0 < cap ∨ 0 < m
  · obtain ⟨g, o', cap', rfl, _, _, hcell⟩ := hu.value hc hmax hpos
    refine ⟨some ⟨g, o', .none⟩, cap', by simp [ho, hk], (fun h => by cases h), fun j u hj => ⟨_, rfl, ?_⟩⟩
    rw [Addr.add_lit, hcell j (by have := (List.getElem?_eq_some_iff.1 hj).1; rw [cellsOf_length, List.length_append] at this; omega), ← cellsOf_append]
    exact hj
  · have h0 : cap = 0 := by omega
    have h1 : m = 0 := by omega
    have hl := hc.le
    have hv := hu.bare hc h0 h1
    have e1 : os = [] := List.eq_nil_of_length_eq_zero (by omega)
    have e2 : ks = [] := List.eq_nil_of_length_eq_zero (by omega)
    subst e1 e2 hv
    exact ⟨ao, 0, by simp, fun _ => rfl, fun j u hj => by simp [cellsOf] at hj⟩

end Go.Proofs.Ybulkddem
