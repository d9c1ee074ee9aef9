import Derived.Test.YbulkddemLawApp32
import Derived.Test.YbulkddemLawUnder
namespace Go.Proofs.Ybulkddem
open Go.RowKit

theorem came_alloc {W : World} {ao : Option Addr} {b off len cap : Nat} {olds : List Value} (hc : Came W 1 ao b off len cap olds) (o : Obj) : Came (W.alloc o) 1 ao b off len cap olds := by
  have hcell : ∀ j u, W.cell? ⟨b, j, .none⟩ = some u → (W.alloc o).cell? ⟨b, j, .none⟩ = some u := fun j u h => by
    have hlt := World.block_lt_of_cell? _ _ h
    exact (World.cell?_of_block (a := ⟨b, j, .none⟩) (Below.heap_alloc W o b hlt)).trans h
  refine ⟨hc.le, hc.addr, fun h => ?_, hc.oldsLen, fun j u hu => hcell _ _ (hc.olds j u hu), fun j hj => ?_⟩
  · have := hc.lt h
    have e : (W.alloc o).heap.size = W.heap.size + 1 := by simp
    omega
  · obtain ⟨h1, h2⟩ := hc.spare j hj
    obtain ⟨u, hu⟩ := Option.isSome_iff_exists.1 h1
    refine ⟨by rw [hcell _ _ hu]; rfl, ?_⟩
    have hlt := World.block_lt_of_cell? _ _ hu
    exact (World.frozen?_of_block (a := ⟨b, off + len * 1 + j, .none⟩) (Below.heap_alloc W o b hlt)).trans h2

/-- What appendTo lays behind the packet. -/
def blockCells (typ : ByteArray) (data : List Int) : List Value :=
  byteCells typ ++ cellsOf (be4 (8 + up4 data.length)) ++ cellsOf data ++ byteCells (zeroStr (up4 data.length - data.length))

/-- The boxed receiver stays as it was. -/
theorem box_cell {w w1 : World} {ao : Option Addr} {b off len cap m r : Nat} {olds ks : List Value} {v x y : Value} (hc : Came w 1 ao b off len cap olds)
    (hu : Upon (w.alloc (.cells #[x, y] 24)) 5 1 ao b off len cap olds w1 v m ks r) :
    w1.cell? ⟨w.heap.size, 0, .none⟩ = some x ∧ w1.cell? ⟨w.heap.size, 1, .none⟩ = some y ∧ w.heap.size < w1.heap.size := by
  have hsz : (w.alloc (.cells #[x, y] 24)).heap.size = w.heap.size + 1 := by simp
  have hn : ∀ o' j, j < r → ¬ (w.heap.size = b ∧ o' = off + len * 1 + j) := fun o' j hj ⟨e, _⟩ => by
    have := hc.lt (hu.capPos hj)
    omega
  refine ⟨?_, ?_, ?_⟩
  · rw [hu.old (b' := w.heap.size) (o' := 0) (by omega) (hn 0)]
    exact World.cell?_alloc_new w #[x, y] 24 0
  · rw [hu.old (b' := w.heap.size) (o' := 1) (by omega) (hn 1)]
    exact World.cell?_alloc_new w #[x, y] 24 1
  · have := hu.kept.size
    omega

/-- append(p, make([]byte, k)...), as one step of a region that draws its order. -/
theorem step_zeros {ops : Array Oper} {o : Oper} {a : Act} {w : World} {K : Act → World → Prop} {Q : Exit → Act → World → Prop} {E : Prop} (hgd : o.guard = .none) (s x : Operand)
    (ho : o.op = .call { callee := .builtin .append, args := #[s, x], argTypes := #[22, 3] })
    {W : World} {ao : Option Addr} {b off len cap : Nat} {olds : List Value} (hc : Came W 1 ao b off len cap olds) {v : Value} {m : Nat} {ks : List Value} {r : Nat} (h : Upon W 5 1 ao b off len cap olds w v m ks r)
    (hv : a.eval s = v) (k : Nat) (z : Int) (hz : z = k) (hx : a.eval x = .int .i64 z) (hb : len + m + k ≤ 1000000)
    (hK : ∀ v' w', Upon W 5 1 ao b off len cap olds w' v' (m + k) (ks ++ byteCells (zeroStr k)) (Upon.next len cap 1 m r k) → K (a.put o.dst v') w') :
    if Region.wanted o (yielded ops a.tmps) = true then Oper.wp Yba.prog o a w K Q else E := by
  have hw : Region.wanted o (yielded ops a.tmps) = true := by simp [Region.wanted, hgd]
  rw [if_pos hw]
  obtain ⟨i0, hi, hz0, hz1, hz2⟩ := info_parts info5
  have hsrc := Src.ofString w Yba.underlying9 (zeroStr k)
  rw [zeroStr_size] at hsrc
  obtain ⟨v', w', hrun, hu⟩ := run_append_upon hc 22 9 o.type i0 (.int .u8 0) 1 Yba.underlying22 hi hz0 hz1 hz2 rfl h _ k _ hsrc (by unfold maxLen; omega) (by omega)
  obtain ⟨a1, c1, rfl⟩ := h.shape
  subst hz
  rw [← run_zeros w o.type a1 (len + m) c1 k (by omega)] at hrun
  exact Lib.wp_append_run w s x 22 3 ho _ _ hv hx v' w' hrun (hK v' w' hu)

set_option maxHeartbeats 1000000 in
theorem appendTo_any {w : World} {ao : Option Addr} {b off len cap : Nat} {olds : List Value} (hc : Came w 1 ao b off len cap olds) (typ : ByteArray) (da : Option Addr) (dl dc : Nat) (data : List Int)
    {w0 : World} (hd : Reads w0 (.slice da dl dc) data) (hU : Under w0.heap.size w0 w) (hbb : w0.heap.size ≤ b) (h1 : typ.size ≤ 4096) (h2 : dl ≤ 4096) (h3 : len ≤ 4096) :
    Calls Yba.prog 4 #[.agg #[.string typ, .slice da dl dc], .slice ao len cap] w fun e w' => ∃ v' m r, e = .returned v' ∧
      Upon (w.alloc (.cells #[.string typ, .slice da dl dc] 24)) 5 1 ao b off len cap olds w' v' m (blockCells typ data) r := by
  obtain ⟨i0, hi, hz0, hz1, hz2⟩ := info_parts info5
  obtain rfl : dl = data.length := by obtain ⟨_, _, e, _⟩ := hd; simp at e; exact e.2.1
  have hc' := came_alloc hc (.cells #[.string typ, .slice da data.length dc] 24)
  have hup : up4 data.length ≤ 4099 ∧ data.length ≤ up4 data.length := by unfold up4; omega
  go_enter Yba.func4, Yba.ntmps4
  go_wp2_with (at_builtin; refine wpList_append_upon _ rfl (.tmp 5) (.tmp 7) 22 9 rfl hc' i0 (.int .u8 0) 1 Yba.underlying22 hi hz0 hz1 hz2 rfl rfl (Upon.start hc') _ typ.size (byteCells typ) rfl (Src.ofString _ Yba.underlying9 typ) ?b1 ?b2 ?_)
  case b1 => unfold maxLen; omega
  case b2 => omega
  intro v1 w1 hu
  obtain ⟨k0, k1, k2⟩ := box_cell hc hu
  obtain ⟨a1, c1, hv1⟩ := hu.shape
  subst hv1
  go_wp2
  have hw32 : Hid (IntKind.u32.wrap (8 + (up4 data.length : Int)) = ((8 + up4 data.length : Nat) : Int)) := by show _ = _; rw [IntKind.wrap_u32']; omega
  go_region_held3 (fun w' => w'.cell? ⟨w.heap.size, 0, .none⟩ = some (.string typ) ∧ w'.cell? ⟨w.heap.size, 1, .none⟩ = some (.slice da data.length dc)) (first | go_keep | exact ⟨(box_cell hc hu2).1, (box_cell hc hu2).2.1⟩)
    (first
      | (go_at_call 8; refine (size_any typ da data.length dc _ h2).mono ?_; rintro e w' ⟨rfl, rfl⟩)
      | (go_at_call 7; rw [hw32.out]; refine (app32 hc' ((hu.alloc hc' _).drew hc') (8 + up4 data.length) (by omega) (by omega)).mono ?_; rintro e w2 ⟨v2, rfl, hu2⟩))
  clear hu
  obtain ⟨k3, k4, k5⟩ := box_cell hc hu2
  obtain ⟨a2, c2, hv2⟩ := hu2.shape
  subst hv2
  have hdr := hd.later ((hU.alloc hU.size _).upon (by have := hU.size; simp; omega) hbb hu2)
  go_wp2_with (at_builtin; refine wpList_append_upon _ rfl (.tmp 15) (.tmp 17) 22 22 rfl hc' i0 (.int .u8 0) 1 Yba.underlying22 hi hz0 hz1 hz2 rfl rfl hu2 _ data.length (cellsOf data) rfl hdr.src ?d1 ?d2 ?_)
  case d1 => unfold maxLen; omega
  case d2 => omega
  intro v3 w3 hu3
  clear hu2 hdr k0 k1 k2 k3 k4 k5
  obtain ⟨k0, k1, k2⟩ := box_cell hc hu3
  obtain ⟨a3, c3, hv3⟩ := hu3.shape
  subst hv3
  go_wp2
  have hpad : Hid (IntKind.i64.wrap (IntKind.i64.wrap (8 + (up4 data.length : Int) - 8) - (data.length : Int)) = ((up4 data.length - data.length : Nat) : Int)) := by show _ = _; rw [IntKind.wrap_i64, IntKind.wrap_i64]; omega
  go_region_held3 (fun w' => w'.cell? ⟨w.heap.size, 0, .none⟩ = some (.string typ) ∧ w'.cell? ⟨w.heap.size, 1, .none⟩ = some (.slice da data.length dc)) (first | go_keep | exact ⟨(box_cell hc hu4).1, (box_cell hc hu4).2.1⟩)
    (first
      | (go_at_call 8; refine (size_any typ da data.length dc _ h2).mono ?_; rintro e w' ⟨rfl, rfl⟩)
      | (refine step_zeros (by rfl) (.tmp 19) (.tmp 26) (by rfl) hc' ((hu3.alloc hc' _).drew hc') (by simp [Act.eval]) (up4 data.length - data.length) _ hpad.out (by simp [Act.eval]) (by omega) ?_; intro v4 w4 hu4))
  obtain ⟨a4, c4, hv4⟩ := hu4.shape
  subst hv4
  go_wp2
  go_ret
  have eb : blockCells typ data = byteCells typ ++ (cellsOf (be4 (8 + up4 data.length)) ++ cellsOf data) ++ byteCells (zeroStr (up4 data.length - data.length)) := by simp [blockCells, List.append_assoc]
  exact ⟨.slice a4 _ c4, _, _, rfl, by rw [eb]; exact hu4⟩

/-- What is laid behind the packet, as numbers. -/
def blockNums (typ : ByteArray) (data : List Int) : List Int :=
  strNums typ ++ be4 (8 + up4 data.length) ++ data ++ List.replicate (up4 data.length - data.length) 0
theorem blockCells_nums (typ : ByteArray) (data : List Int) : blockCells typ data = cellsOf (blockNums typ data) := by
  simp only [blockCells, blockNums, cellsOf_append, byteCells_nums]
  rw [← zeroCells_nums, byteCells_nums]

end Go.Proofs.Ybulkddem
