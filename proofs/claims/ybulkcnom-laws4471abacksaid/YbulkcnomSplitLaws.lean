/-
  Seat b4471a, Forward and Back: 'make' as a step of a region that draws; 'clear' at elements of any size; the halves of a leaf.
-/
import Derived.Test.YbulkcnomUntil
namespace Go.Proofs.Ybulkcnom
open Go.RowKit
theorem step_make_own {P : Program} {ops : Array Oper} {o : Oper} {a : Act} {w : World} {K : Act → World → Prop} {Q : Exit → Act → World → Prop} {E : Prop} (hgd : o.guard = none) (l c : Operand) (t : TypeId) (hop : o.op = Op.makeSlice t l c)
    (base : Nat) (e : TypeId) (i : TypeInfo) (z : Value) (size : Nat) (h1 : P.underlying t = some (.slice e)) (h2 : P.info? e = some i) (h3 : i.zero = some z) (h4 : i.size = size)
    (kl kc : IntKind) (n : Nat) (hl : a.eval l = .int kl 0) (hc : a.eval c = .int kc (n : Int)) (b2 : i.bytes * n ≤ 281474976710656) (b3 : n ≤ maxLen) (b4 : base ≤ w.heap.size) (H : Nat) (hH : w.heap.size = H)
    (h : ∀ w', w'.ownsRow base e size (.slice (some ⟨H, 0, none⟩) 0 n) 0 [] → Kp [] w w' → K (a.put o.dst (.slice (some ⟨H, 0, none⟩) 0 n)) w') :
    if Region.wanted o (yielded ops a.tmps) = true then Oper.wp P o a w K Q else E := by
  have hw : Region.wanted o (yielded ops a.tmps) = true := by simp [Region.wanted, hgd]
  rw [if_pos hw]
  obtain ⟨w', hrun, r1, r2⟩ := run_make_own (P := P) w base t e i z size h1 h2 h3 h4 kl kc n b2 b3 b4
  rw [hH] at hrun r1
  unfold Oper.wp
  simp [execOp, hop, hl, hc, hrun, Result.andThen]
  exact h w' r1 ⟨r2.os, r2.tape, r2.output, r2.size, fun k hk _ => r2.block k hk (by simp)⟩
theorem run_clear_any {P : Program} (w : World) (t e ty : TypeId) (z : Value) (ht : P.underlying t = some (.slice e)) (hv : ∀ w, (zeroValue e).run P w = .ok z w) (g off n c : Nat) (hn : 0 < n)
    (cur : Array Value) (et : TypeId) (hg : w.heap[g]? = some (.cells cur et)) (hfit : off + n * z.cells.size ≤ cur.size) (h1 : ∀ v ∈ (Builtin.zeroCells z.cells n).toList, v.oneCell' = true) :
    (Builtin.clear_ #[t] ty #[.slice (some ⟨g, off, none⟩) n c]).run P w = .ok (.tuple #[]) (w.setRow g (Go.splice cur.toList off (Builtin.zeroCells z.cells n).toList).toArray) := by
  have hl : (Builtin.zeroCells z.cells n).toList.length = n * z.cells.size := by simp [Builtin.zeroCells]
  have hst := run_storeCells_at P g off et (Builtin.zeroCells z.cells n).toList 0 cur w hg (by rw [hl]; simpa using hfit) h1
  simp only [Nat.add_zero] at hst
  obtain ⟨m, rfl⟩ : ∃ m, n = m + 1 := ⟨n - 1, by omega⟩
  simp [Builtin.clear_, run_underlying ht, hv, hst, Go.splice]
theorem wpList_clear_any {P : Program} {w : World} {ops : Array Oper} {rest : List Oper} {o : Oper} {a : Act} {Q : Exit → Act → World → Prop} (hgd : o.guard = none) (s : Operand) (t : TypeId)
    (ho : o.op = .call { callee := .builtin .clear, args := #[s], argTypes := #[t] }) (e : TypeId) (z : Value) (ht : P.underlying t = some (.slice e)) (hv : ∀ w, (zeroValue e).run P w = .ok z w)
    (g off n c : Nat) (hs : a.eval s = .slice (some ⟨g, off, none⟩) n c) (hn : 0 < n) (cur : Array Value) (et : TypeId) (hg : w.heap[g]? = some (.cells cur et)) (size : Nat) (hsz : z.cells.size = size) (hfit : off + n * size ≤ cur.size)
    (h1 : ∀ v ∈ (Builtin.zeroCells z.cells n).toList, v.oneCell' = true)
    (h : ∀ w' zs, Hid (zs.length = n * size) → Hid (w'.heap[g]? = some (.cells (Go.splice cur.toList off zs).toArray et)) → Hid (Kp [g] w w') → wpList P ops Q rest (a.put o.dst (.tuple #[])) w') : wpList P ops Q (o :: rest) a w := by
  refine wpList_plain hgd fun K hK => ?_
  subst hsz
  have hrun := run_clear_any (P := P) w t e o.type z ht hv g off n c hn cur et hg hfit h1
  unfold Oper.wp
  simp [execOp, ho, resolve, invoke, builtin, hs, hrun, Result.andThen]
  refine hK _ _ (h _ _ (show _ = _ by simp [Builtin.zeroCells]) (show _ = _ from setRow_heap w g _ _ et _ hg) ⟨rfl, rfl, rfl, by simp [World.setRow], fun k hk hm => ?_⟩)
  exact setRow_other w g k _ (by simpa using hm)
theorem zero_one (z : Value) (n : Nat) (hz : ∀ j, j < z.cells.size → (z.cells[j]!).oneCell' = true) (hp : 0 < z.cells.size) : ∀ v ∈ (Builtin.zeroCells z.cells n).toList, v.oneCell' = true := by
  intro v hv
  simp only [Builtin.zeroCells, Array.mem_toList_iff, Array.mem_map] at hv
  obtain ⟨j, _, rfl⟩ := hv
  exact hz _ (Nat.mod_lt _ hp)
theorem take_splice {α : Type} (L : List α) (off : Nat) (zs : List α) (h : off ≤ L.length) : (Go.splice L off zs).take off = L.take off := by
  unfold Go.splice
  rw [List.take_append_of_le_length (by simp; omega), List.take_of_length_le (by simp; omega)]
/-- The first part of a row, behind a 'clear' of the rest. -/
theorem ownsRow_half {w w' : World} {N : Nat} {e : TypeId} {size g n m cap : Nat} {xs zs : List Value} {cur : Array Value} (h : w.ownsRow N e size (.slice (some ⟨g, 0, none⟩) n cap) n xs) (hg : w.heap[g]? = some (.cells cur e)) (hm : m ≤ n)
    (hz : m * size + zs.length ≤ cur.size) (h' : w'.heap[g]? = some (.cells (Go.splice cur.toList (m * size) zs).toArray e)) : w'.ownsRow N e size (.slice (some ⟨g, 0, none⟩) m cap) m (xs.take (m * size)) := by
  obtain ⟨cur', hg', hN, h1, h2, h3, h4⟩ := ownsRow_blk h
  rw [hg] at hg'
  simp at hg'
  subst hg'
  have hmn : m * size ≤ n * size := Nat.mul_le_mul_right _ hm
  have hx := h.1
  refine ⟨by simp; omega, .inr ⟨g, cap, _, rfl, hN, h', by omega, h2, ?_, ?_⟩⟩
  · simp [length_splice _ _ _ (show m * size + zs.length ≤ cur.toList.length by simpa using hz), h3]
  · rw [List.toList_toArray, take_splice _ _ _ (by simp; omega), ← h4, List.take_take, Nat.min_eq_left hmn]
end Go.Proofs.Ybulkcnom
