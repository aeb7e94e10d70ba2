/-
  Seat b4484a: the two maps and rows of pointers that the law builds.
-/
import Derived.Test.YbulkcnvmWalks
namespace Go.Proofs.Ybulkcnvm
open Go.RowKit Go.Maps
theorem ownsMap_below {w w' : World} {m n : Nat} {D : DataW Unit} (h : w.ownsMap Yba.prog 9 ptrElem m n D) (hb : w'.heap[m]? = w.heap[m]?) : w'.ownsMap Yba.prog 9 ptrElem m n D := by
  obtain ⟨es, clock, h1, h2⟩ := h
  exact ⟨es, clock, hb.trans h1, h2⟩
theorem ownsMap_lt {w : World} {m n : Nat} {D : DataW Unit} (h : w.ownsMap Yba.prog 9 ptrElem m n D) : m < w.heap.size := by
  obtain ⟨es, clock, h1, h2⟩ := h
  exact lt_of h1
/-- All that the law has built: two maps, two rows of pointers. -/
structure Two (w W : World) (m1 p1 m2 p2 n1 n2 : Nat) (ss1 ss2 : Nat → ByteArray) (q1 q2 : Nat → Option Nat) (D1 D2 : DataW Unit) : Prop where
  own1 : W.ownsMap Yba.prog 9 ptrElem m1 n1 D1
  own2 : W.ownsMap Yba.prog 9 ptrElem m2 n2 D2
  hol1 : Holds D1 (lastp ss1 q1 n1)
  hol2 : Holds D2 (lastp ss2 q2 n2)
  row1 : p1 < W.heap.size ∧ ∀ i, i < n1 → W.cell? ⟨p1, i, none⟩ = some (pv (q1 i))
  row2 : p2 < W.heap.size ∧ ∀ i, i < n2 → W.cell? ⟨p2, i, none⟩ = some (pv (q2 i))
  kp : Below w.heap.size w W
theorem Two.step {w W W' : World} {m1 p1 m2 p2 n1 n2 : Nat} {ss1 ss2 : Nat → ByteArray} {q1 q2 : Nat → Option Nat} {D1 D2 : DataW Unit} (h : Two w W m1 p1 m2 p2 n1 n2 ss1 ss2 q1 q2 D1 D2) (k : Below W.heap.size W W') : Two w W' m1 p1 m2 p2 n1 n2 ss1 ss2 q1 q2 D1 D2 :=
  ⟨ownsMap_below h.own1 (k.block _ (ownsMap_lt h.own1)), ownsMap_below h.own2 (k.block _ (ownsMap_lt h.own2)), h.hol1, h.hol2, ⟨Nat.lt_of_lt_of_le h.row1.1 k.size, fun i hi => (k.cell (p := ⟨p1, i, none⟩) h.row1.1).trans (h.row1.2 i hi)⟩,
   ⟨Nat.lt_of_lt_of_le h.row2.1 k.size, fun i hi => (k.cell (p := ⟨p2, i, none⟩) h.row2.1).trans (h.row2.2 i hi)⟩, h.kp.trans (k.mono h.kp.size)⟩
theorem Bd.two {w w1 w2 : World} {n1 n2 : Nat} {ss1 ss2 : Nat → ByteArray} {q1 q2 : Nat → Option Nat} {D1 D2 : DataW Unit} (h1 : Bd w w1 n1 n1 ss1 q1 D1) (h2 : Bd w1 w2 n2 n2 ss2 q2 D2) :
    Two w w2 w.heap.size (w.heap.size + 1) w1.heap.size (w1.heap.size + 1) n1 n2 ss1 ss2 q1 q2 D1 D2 := by
  obtain ⟨cs1, a1, _, a3⟩ := h1.row
  obtain ⟨cs2, b1, _, b3⟩ := h2.row
  have l1 := lt_of a1
  have e1 := h2.kp.block _ l1
  refine ⟨ownsMap_below h1.own (h2.kp.block _ (ownsMap_lt h1.own)), h2.own, h1.hol, h2.hol, ⟨Nat.lt_of_lt_of_le l1 h2.kp.size, fun i hi => (cell_of (e1.trans a1)).trans (a3 i hi)⟩, ⟨lt_of b1, fun i hi => (cell_of b1).trans (b3 i hi)⟩, h1.kp.trans (h2.kp.mono h1.kp.size)⟩
theorem eqIn38 (d : Nat) (a : Addr) (w : World) : Sem.run Yba.prog (Op.equalIn (d + 1) 38 (.pointer (some a)) (.pointer (some a))) w = .ok true w := by
  simp [Op.equalIn, run_underlying Yba.underlying38, Yba.sizeOf55, sameAddr]
theorem eq38 (a : Addr) (w : World) : Sem.run Yba.prog (Op.equal 38 (.pointer (some a)) (.pointer (some a))) w = .ok true w := eqIn38 9999 a w
theorem neq38 (a : Addr) (w : World) : Sem.run Yba.prog (binOp .neq 38 (.pointer (some a)) (.pointer (some a))) w = .ok (.bool false) w := by
  simp only [binOp]
  simp [eq38]
theorem neq38n (w : World) : Sem.run Yba.prog (binOp .neq 38 (.pointer none) (.pointer none)) w = .ok (.bool false) w := by kernel_rfl
theorem neq38p (o : Option Nat) (w : World) : Sem.run Yba.prog (binOp .neq 38 (pv o) (pv o)) w = .ok (.bool false) w := by
  cases o with
  | none => exact neq38n w
  | some b => exact neq38 _ w
theorem pv_none : pv none = .pointer none := rfl
theorem pv_some (b : Nat) : pv (some b) = .pointer (some ⟨b, 0, none⟩) := rfl
end Go.Proofs.Ybulkcnvm
