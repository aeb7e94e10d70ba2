/-
  Seat b4470a: the one store into a map of no entry; netip.AddrPortFrom at the zero address.
-/
import Derived.Test.YbulkcnnyWalks
namespace Go.Proofs.Ybulkcnny
open Go.RowKit
open Go.ChangeMaps (setBlock)

theorem check0 (w : World) : Sem.run Yba.prog (Instr.checkKey false 10000 25 K0) w = .ok () w := by kernel_rfl
theorem find0 (w : World) : Sem.run Yba.prog (Instr.findKey 25 K0 []) w = .ok none w := by kernel_rfl
theorem upd_empty (w : World) (m : Nat) (v : Value) (hb : w.heap[m]? = some (.map #[] 0)) :
    Sem.run Yba.prog (Instr.mapUpdate 27 (.map (some m)) K0 v) w = .ok () (setBlock w m (one v)) := by
  simp [Instr.mapUpdate, run_underlying Yba.underlying27, MapKept.run_getObj_map hb, check0, find0, MapKept.run_setObj_map _ hb, one, setBlock]
theorem setBlock_alloc (w : World) (o o' : Obj) : setBlock (w.alloc o) w.heap.size o' = w.alloc o' := by
  simp only [setBlock, World.alloc]
  congr 1
  apply Array.ext_getElem?
  intro k
  simp only [Array.getElem?_setIfInBounds, Array.getElem?_push, Array.size_push]
  by_cases hk : k = w.heap.size
  · subst hk; simp
  · simp [hk, Ne.symm hk]
theorem upd_new (w : World) (n : Nat) (v : Value) (hn : n = w.heap.size) :
    Sem.run Yba.prog (Instr.mapUpdate 27 (.map (some n)) K0 v) (w.alloc (.map #[] 0)) = .ok () (w.alloc (one v)) := by
  subst hn
  rw [upd_empty _ _ _ (heap_alloc_same w _), setBlock_alloc]

theorem addrPortFrom (p : Int) (w : World) :
    Calls Yba.prog 5 #[.agg #[.int .u64 0, .int .u64 0, .pointer none], .int .u16 p] w fun e w' => e = .returned (Ad p) ∧ ∃ c1 c2 : Array Value, w' = (w.alloc (.cells c1 46)).alloc (.cells c2 48) := by
  go_enter Yba.func5, Yba.ntmps5
  go_wp2
  simp [bodyPost, results, Yba.results5, go_sem]
  exact ⟨_, _, rfl⟩
theorem Kp.allocOne {S : List Nat} {a w : World} (h : Kp S a w) (v : Value) : Kp S a (w.alloc (one v)) := h.allocMap _ _
theorem Kp.thenNew {S : List Nat} {w a b : World} (h : Kp [] w a) (k : Kp S a b) (hS : ∀ i, i ∈ S → w.heap.size ≤ i) : Kp [] w b :=
  ⟨k.os.trans h.os, k.tape.trans h.tape, k.output.trans h.output, Nat.le_trans h.size k.size, fun i hi hs => (k.block i (Nat.lt_of_lt_of_le hi h.size) (fun hm => by have := hS i hm; omega)).trans (h.block i hi hs), fun a => (k.frz a).trans (h.frz a)⟩
theorem heap_alloc_at (w : World) (o : Obj) {n : Nat} (hn : n = w.heap.size) : (w.alloc o).heap[n]? = some o := by subst hn; exact heap_alloc_same w o
end Go.Proofs.Ybulkcnny
