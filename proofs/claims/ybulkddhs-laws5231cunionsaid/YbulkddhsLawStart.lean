import Derived.Test.YbulkddhsLawAfter
namespace Go.Proofs.Ybulkddhs
open Go.RowKit

theorem Built.open {nw off : Nat} {noLow : Bool} {w w' : World} {e : Ending} (hb : Built nw off noLow w e w') :
    ∃ (low : Option Addr) (o n lo top HB : Nat) (h : Nat → Bool), e = .returned (.tuple #[.agg #[.pointer low, .int .i32 o, .int .i32 n, .int .i32 lo, .int .i32 top, .int .i32 (-1), .bool false], .slice (some ⟨HB, 0, .none⟩) (64 * nw) (64 * nw)]) ∧
    h 0 = false ∧ Blk w' HB (boolCells h (64 * nw)) 4 ∧ w.heap.size ≤ HB ∧ KeptBut [] w w' ∧
    ((low = .none ∧ o = 0 ∧ n = 0 ∧ lo = 1 ∧ top = 0 ∧ (∀ c, h c = false) ∧ noLow = true) ∨
      ∃ L WB W, low = some ⟨L, 0, .none⟩ ∧ o = off % (64 * nw) ∧ Blk w' L [.slice (some ⟨WB, 0, .none⟩) nw nw, .int .i32 1] 41 ∧ Blk w' WB (wordCells W) 39 ∧ w.heap.size ≤ L ∧ w.heap.size ≤ WB ∧ IsRing nw W o h n lo top) := hb

/-- What the law has laid ahead of or. -/
structure Start (w w3 : World) (nw R S HB HBs SL SW L WB off o n lo top so sn slo stop : Nat) (low : Option Addr) (W V : List Nat) (h hs : Nat → Bool) (hi hiS : Int) (f fS : Bool) (refs : Int) : Prop where
  kept : KeptBut [] w w3
  pool : Pool w3 (w.heap.size + 2) w.heap.size (w.heap.size + 1) nw
  ring : Blk w3 R (ringCells low o n lo top hi f) 32
  src : Blk w3 S (ringCells (some ⟨SL, 0, .none⟩) so sn slo stop hiS fS) 32
  ne : R ≠ S
  has : Blk w3 HB (boolCells h (64 * nw)) 4
  hasS : Blk w3 HBs (boolCells hs (64 * nw)) 4
  sl : Blk w3 SL [.slice (some ⟨SW, 0, .none⟩) nw nw, .int .i32 1] 41
  sw : Blk w3 SW (wordCells V) 39
  srcRing : IsRing nw V so hs sn slo stop
  hz : h 0 = false
  newR : w.heap.size ≤ R
  newS : w.heap.size ≤ S
  words : (low = none ∧ o = 0 ∧ n = 0 ∧ lo = 1 ∧ top = 0 ∧ (∀ c, h c = false)) ∨
    (low = some ⟨L, 0, .none⟩ ∧ Blk w3 L [.slice (some ⟨WB, 0, .none⟩) nw nw, .int .i32 refs] 41 ∧ Blk w3 WB (wordCells W) 39 ∧ IsRing nw W o h n lo top ∧ L ≠ SL ∧ WB ≠ SW ∧ w.heap.size ≤ L ∧ w.heap.size ≤ WB ∧ o = off)

section
variable {w w3 w4 : World} {nw R S HB HBs SL SW L WB off o n lo top so sn slo stop : Nat} {low : Option Addr} {W V : List Nat} {h hs : Nat → Bool} {hi hiS : Int} {f fS : Bool} {refs : Int}

theorem Pool.kept {PB RB FB : Nat} {bs : List Nat} (hp : Pool w3 PB RB FB nw) (hk : KeptBut bs w3 w4) (h1 : PB ∉ bs) (h2 : RB ∉ bs) (h3 : FB ∉ bs) : Pool w4 PB RB FB nw := ⟨hp.pool.kept hk h1, hp.reg.kept hk h2, hp.free.kept hk h3⟩

theorem Start.later (st : Start w w3 nw R S HB HBs SL SW L WB off o n lo top so sn slo stop low W V h hs hi hiS f fS refs) (hk : KeptBut [] w3 w4) :
    Start w w4 nw R S HB HBs SL SW L WB off o n lo top so sn slo stop low W V h hs hi hiS f fS refs :=
  ⟨st.kept.trans hk, st.pool.kept hk (by simp) (by simp) (by simp), st.ring.kept hk (by simp), st.src.kept hk (by simp), st.ne, st.has.kept hk (by simp), st.hasS.kept hk (by simp), st.sl.kept hk (by simp), st.sw.kept hk (by simp), st.srcRing, st.hz, st.newR, st.newS, by
    rcases st.words with hh | ⟨e, b1, b2, r⟩
    · exact .inl hh
    · exact .inr ⟨e, b1.kept hk (by simp), b2.kept hk (by simp), r⟩⟩

/-- Blocks of another kind than 32. -/
theorem Blk.apart {g g' : Nat} {arr arr' : List Value} {t t' : TypeId} (h1 : Blk w g arr t) (h2 : Blk w g' arr' t') (hne : t ≠ t') : g ≠ g' := fun e => by
  subst e
  exact hne (h1.uniq h2).2

theorem Start.setR {hi' : Int} {f' : Bool} (st : Start w w3 nw R S HB HBs SL SW L WB off o n lo top so sn slo stop low W V h hs hi hiS f fS refs) (hk : KeptBut [R] w3 w4) (hb : Blk w4 R (ringCells low o n lo top hi' f') 32) :
    Start w w4 nw R S HB HBs SL SW L WB off o n lo top so sn slo stop low W V h hs hi' hiS f' fS refs :=
  ⟨st.kept.open hk (by simpa using st.newR), st.pool.kept hk (by simpa using st.pool.pool.apart st.ring (by decide)) (by simpa using st.pool.reg.apart st.ring (by decide)) (by simpa using st.pool.free.apart st.ring (by decide)), hb, st.src.kept hk (by simpa using Ne.symm st.ne), st.ne,
    st.has.kept hk (by simpa using st.has.apart st.ring (by decide)), st.hasS.kept hk (by simpa using st.hasS.apart st.ring (by decide)), st.sl.kept hk (by simpa using st.sl.apart st.ring (by decide)), st.sw.kept hk (by simpa using st.sw.apart st.ring (by decide)), st.srcRing, st.hz, st.newR, st.newS, by
    rcases st.words with hh | ⟨e, b1, b2, r⟩
    · exact .inl hh
    · exact .inr ⟨e, b1.kept hk (by simpa using b1.apart st.ring (by decide)), b2.kept hk (by simpa using b2.apart st.ring (by decide)), r⟩⟩
theorem Start.setS {hi' : Int} {f' : Bool} (st : Start w w3 nw R S HB HBs SL SW L WB off o n lo top so sn slo stop low W V h hs hi hiS f fS refs) (hk : KeptBut [S] w3 w4) (hb : Blk w4 S (ringCells (some ⟨SL, 0, .none⟩) so sn slo stop hi' f') 32) :
    Start w w4 nw R S HB HBs SL SW L WB off o n lo top so sn slo stop low W V h hs hi hi' f f' refs :=
  ⟨st.kept.open hk (by simpa using st.newS), st.pool.kept hk (by simpa using st.pool.pool.apart st.src (by decide)) (by simpa using st.pool.reg.apart st.src (by decide)) (by simpa using st.pool.free.apart st.src (by decide)), st.ring.kept hk (by simpa using st.ne), hb, st.ne,
    st.has.kept hk (by simpa using st.has.apart st.src (by decide)), st.hasS.kept hk (by simpa using st.hasS.apart st.src (by decide)), st.sl.kept hk (by simpa using st.sl.apart st.src (by decide)), st.sw.kept hk (by simpa using st.sw.apart st.src (by decide)), st.srcRing, st.hz, st.newR, st.newS, by
    rcases st.words with hh | ⟨e, b1, b2, r⟩
    · exact .inl hh
    · exact .inr ⟨e, b1.kept hk (by simpa using b1.apart st.src (by decide)), b2.kept hk (by simpa using b2.apart st.src (by decide)), r⟩⟩
theorem Start.setL {refs' : Int} (st : Start w w3 nw R S HB HBs SL SW L WB off o n lo top so sn slo stop low W V h hs hi hiS f fS refs) (hlow : low ≠ none) (hk : KeptBut [L] w3 w4) (hb : Blk w4 L [.slice (some ⟨WB, 0, .none⟩) nw nw, .int .i32 refs'] 41) :
    Start w w4 nw R S HB HBs SL SW L WB off o n lo top so sn slo stop low W V h hs hi hiS f fS refs' := by
  rcases st.words with ⟨e, _⟩ | ⟨e, b1, b2, r, q1, q2, q3, q4, q5⟩
  · exact absurd e hlow
  · exact ⟨st.kept.open hk (by simpa using q3), st.pool.kept hk (by simpa using st.pool.pool.apart b1 (by decide)) (by simpa using st.pool.reg.apart b1 (by decide)) (by simpa using st.pool.free.apart b1 (by decide)), st.ring.kept hk (by simpa using st.ring.apart b1 (by decide)), st.src.kept hk (by simpa using st.src.apart b1 (by decide)), st.ne,
      st.has.kept hk (by simpa using st.has.apart b1 (by decide)), st.hasS.kept hk (by simpa using st.hasS.apart b1 (by decide)), st.sl.kept hk (by simpa using Ne.symm q1), st.sw.kept hk (by simpa using st.sw.apart b1 (by decide)), st.srcRing, st.hz, st.newR, st.newS,
      .inr ⟨e, hb, b2.kept hk (by simpa using b2.apart b1 (by decide)), r, q1, q2, q3, q4, q5⟩⟩

theorem start_of {w0 w1 w2 : World} {noLow : Bool} {slow : Option Addr} {soff : Nat} (hk0 : KeptBut [] w w0) (hp0 : Pool w0 (w.heap.size + 2) w.heap.size (w.heap.size + 1) nw)
    (Q1 : h 0 = false ∧ Blk w1 HB (boolCells h (64 * nw)) 4 ∧ w0.heap.size ≤ HB ∧ KeptBut [] w0 w1 ∧
      ((low = .none ∧ o = 0 ∧ n = 0 ∧ lo = 1 ∧ top = 0 ∧ (∀ c, h c = false) ∧ noLow = true) ∨
        ∃ L WB W, low = some ⟨L, 0, .none⟩ ∧ o = off ∧ Blk w1 L [.slice (some ⟨WB, 0, .none⟩) nw nw, .int .i32 1] 41 ∧ Blk w1 WB (wordCells W) 39 ∧ w0.heap.size ≤ L ∧ w0.heap.size ≤ WB ∧ IsRing nw W o h n lo top))
    (Q2 : hs 0 = false ∧ Blk w2 HBs (boolCells hs (64 * nw)) 4 ∧ (w1.alloc (.cells #[.pointer low, .int .i32 o, .int .i32 n, .int .i32 lo, .int .i32 top, .int .i32 (-1), .bool false] 32)).heap.size ≤ HBs ∧
      KeptBut [] (w1.alloc (.cells #[.pointer low, .int .i32 o, .int .i32 n, .int .i32 lo, .int .i32 top, .int .i32 (-1), .bool false] 32)) w2 ∧
      ((slow = .none ∧ so = 0 ∧ sn = 0 ∧ slo = 1 ∧ stop = 0 ∧ (∀ c, hs c = false) ∧ false = true) ∨
        ∃ L WB W, slow = some ⟨L, 0, .none⟩ ∧ so = soff ∧ Blk w2 L [.slice (some ⟨WB, 0, .none⟩) nw nw, .int .i32 1] 41 ∧ Blk w2 WB (wordCells W) 39 ∧
          (w1.alloc (.cells #[.pointer low, .int .i32 o, .int .i32 n, .int .i32 lo, .int .i32 top, .int .i32 (-1), .bool false] 32)).heap.size ≤ L ∧
          (w1.alloc (.cells #[.pointer low, .int .i32 o, .int .i32 n, .int .i32 lo, .int .i32 top, .int .i32 (-1), .bool false] 32)).heap.size ≤ WB ∧ IsRing nw W so hs sn slo stop)) :
    ∃ SL SW L WB W V, slow = some ⟨SL, 0, .none⟩ ∧
      Start w (w2.alloc (.cells #[.pointer slow, .int .i32 so, .int .i32 sn, .int .i32 slo, .int .i32 stop, .int .i32 (-1), .bool false] 32)) nw w1.heap.size w2.heap.size HB HBs SL SW L WB off o n lo top so sn slo stop low W V h hs (-1) (-1) false false 1 := by
  obtain ⟨hz, bH, hHB, k1, c1⟩ := Q1
  obtain ⟨hzs, bHs, hHBs, k2, c2⟩ := Q2
  rcases c2 with ⟨_, _, _, _, _, _, e⟩ | ⟨SL, SW, V, rfl, rfl, bSL, bSW, hSL, hSW, rS⟩
  · cases e
  have ka := KeptBut.alloc (KeptBut.refl [] w1) (.cells #[.pointer low, .int .i32 o, .int .i32 n, .int .i32 lo, .int .i32 top, .int .i32 (-1), .bool false] 32)
  have kb := KeptBut.alloc (KeptBut.refl [] w2) (.cells #[.pointer (some ⟨SL, 0, .none⟩), .int .i32 so, .int .i32 sn, .int .i32 slo, .int .i32 stop, .int .i32 (-1), .bool false] 32)
  have k13 := (ka.trans k2).trans kb
  have bR : Blk w2 w1.heap.size (ringCells low o n lo top (-1) false) 32 := (Blk.new w1 (ringCells low o n lo top (-1) false) 32).kept k2 (by simp)
  have hsz1 := k1.size
  have hsz0 := hk0.size
  have hsz2 := bR.lt
  simp at hSL hSW
  rcases c1 with ⟨rfl, rfl, rfl, rfl, rfl, hh, _⟩ | ⟨L, WB, W, rfl, rfl, bL, bW, hL, hW, r⟩
  · exact ⟨SL, SW, 0, 0, [], V, rfl, (hk0.trans k1).trans k13, hp0.kept (k1.trans k13) (by simp) (by simp) (by simp), bR.kept kb (by simp), Blk.new w2 (ringCells (some ⟨SL, 0, .none⟩) so sn slo stop (-1) false) 32, by omega, bH.kept k13 (by simp), bHs.kept kb (by simp),
      bSL.kept kb (by simp), bSW.kept kb (by simp), rS, hz, by omega, by omega, .inl ⟨rfl, rfl, rfl, rfl, rfl, hh⟩⟩
  · have := bL.lt
    have := bW.lt
    exact ⟨SL, SW, L, WB, W, V, rfl, (hk0.trans k1).trans k13, hp0.kept (k1.trans k13) (by simp) (by simp) (by simp), bR.kept kb (by simp), Blk.new w2 (ringCells (some ⟨SL, 0, .none⟩) so sn slo stop (-1) false) 32, by omega, bH.kept k13 (by simp), bHs.kept kb (by simp),
      bSL.kept kb (by simp), bSW.kept kb (by simp), rS, hz, by omega, by omega, .inr ⟨rfl, bL.kept k13 (by simp), bW.kept k13 (by simp), r, by omega, by omega, by omega, by omega, rfl⟩⟩
end

/-- slices.Clone at nw words. -/
theorem clone_nw {nw Wb cp : Nat} {W : List Nat} {w : World} (hl : W.length = nw) (h0 : 0 < nw) (h3 : nw ≤ 3) (hb : Blk w Wb (wordCells W) 39) :
    Calls Yba.prog 7 #[.slice (some ⟨Wb, 0, .none⟩) nw cp] w fun e w' => ∃ g c, e = .returned (.slice (some ⟨g, 0, .none⟩) nw c) ∧ w.heap.size ≤ g ∧ WordsAt w' g W ∧ KeptBut [] w w' := by
  subst hl
  exact clone_any Wb cp W w (.of hb) h0 h3
theorem equal_nw {nw A B c1 c2 : Nat} {W : List Nat} {w : World} (hl : W.length = nw) (h3 : nw ≤ 3) (hA : Blk w A (wordCells W) 39) (hB : WordsAt w B W) :
    Calls Yba.prog 9 #[.slice (some ⟨A, 0, .none⟩) nw c1, .slice (some ⟨B, 0, .none⟩) nw c2] w fun e w' => e = .returned (.bool true) ∧ ∃ n, w' = w.drewN n := by
  subst hl
  exact equal_any A B c1 c2 W w (.of hA) hB h3

end Go.Proofs.Ybulkddhs
