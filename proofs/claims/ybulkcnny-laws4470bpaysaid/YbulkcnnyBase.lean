/-
  Seat b4470a: the words on worlds that the walks use ('Kp': what a call may have turned), and the look-up in a map of no entry or one.
-/
import Derived.Test.YbulkcnnyRows
import Derived.WalkKit
import Derived.WalkSpells
import Derived.ProofKit
import Derived.Maps.OwnSet
namespace Go.Proofs.Ybulkcnny
open Go.RowKit

/-- w' is w but for new blocks and for the blocks named in S; no cell has been frozen or let go. -/
structure Kp (S : List Nat) (w w' : World) : Prop where
  os : w'.os = w.os
  tape : w'.tape = w.tape
  output : w'.output = w.output
  size : w.heap.size ≤ w'.heap.size
  block : ∀ k, k < w.heap.size → k ∉ S → w'.heap[k]? = w.heap[k]?
  frz : ∀ a, w'.frozen? a = w.frozen? a

theorem Kp.refl (S : List Nat) (w : World) : Kp S w w := ⟨rfl, rfl, rfl, Nat.le_refl _, fun _ _ _ => rfl, fun _ => rfl⟩
theorem Kp.trans {S : List Nat} {a b c : World} (h : Kp S a b) (k : Kp S b c) : Kp S a c :=
  ⟨k.os.trans h.os, k.tape.trans h.tape, k.output.trans h.output, Nat.le_trans h.size k.size, fun i hi hs => (k.block i (Nat.lt_of_lt_of_le hi h.size) hs).trans (h.block i hi hs), fun a => (k.frz a).trans (h.frz a)⟩
theorem Kp.mono {S S' : List Nat} {a b : World} (h : Kp S a b) (hs : ∀ k, k ∈ S → k ∈ S') : Kp S' a b :=
  ⟨h.os, h.tape, h.output, h.size, fun i hi hn => h.block i hi (fun hm => hn (hs i hm)), h.frz⟩
theorem Kp.drew {S : List Nat} {a w : World} (h : Kp S a w) : Kp S a w.drew := ⟨h.os, h.tape, h.output, h.size, h.block, h.frz⟩
theorem Kp.alloc {S : List Nat} {a w : World} (h : Kp S a w) (c : Array Value) (t : TypeId) : Kp S a (w.alloc (.cells c t)) :=
  h.trans ⟨rfl, rfl, rfl, by simp, fun k hk _ => Below.heap_alloc _ _ _ hk, fun x => frozen?_alloc_cells _ _ _ x⟩
theorem frozen?_alloc_map (w : World) (es : Array MapEntry) (cl : Nat) (a : Addr) : (w.alloc (.map es cl)).frozen? a = w.frozen? a := by
  by_cases h : a.block = w.heap.size
  · have e1 : (w.alloc (.map es cl)).heap[a.block]? = some (.map es cl) := by rw [h]; exact (MapKept.heap_alloc w _).1
    have e2 : w.heap[a.block]? = none := by rw [h]; simp
    simp [World.frozen?, e1, e2]
  · exact World.frozen?_alloc_old _ _ _ h
theorem Kp.allocMap {S : List Nat} {a w : World} (h : Kp S a w) (es : Array MapEntry) (cl : Nat) : Kp S a (w.alloc (.map es cl)) :=
  h.trans ⟨rfl, rfl, rfl, by simp, fun k hk _ => Below.heap_alloc _ _ _ hk, fun x => frozen?_alloc_map _ _ _ x⟩
/-- A store into a block that S names, or into a new one. -/
theorem Kp.setCell {S : List Nat} {a w : World} (h : Kp S a w) {p : Addr} (hp : p.block ∈ S ∨ a.heap.size ≤ p.block) (v : Value) : Kp S a (w.setCell p v) := by
  refine ⟨h.os, h.tape, h.output, by simpa using h.size, fun k hk hs => ?_, fun x => (World.frozen?_setCell _ _ _ _).trans (h.frz x)⟩
  have hne : k ≠ p.block := by
    intro e
    subst e
    rcases hp with hp | hp
    · exact hs hp
    · omega
  rw [Below.heap_setCell _ _ _ _ hne]
  exact h.block k hk hs
/-- A block that was turned and has been turned back. -/
theorem Kp.back {S : List Nat} {b : Nat} {w w' : World} (h : Kp (b :: S) w w') (hb : w'.heap[b]? = w.heap[b]?) : Kp S w w' :=
  ⟨h.os, h.tape, h.output, h.size, fun k hk hs => by
    by_cases e : k = b
    · subst e; exact hb
    · exact h.block k hk (by simp [e, hs]), h.frz⟩
theorem Kp.grown {w w' : World} (h : Kp [] w w') : Grown w w' := by
  refine ⟨⟨h.os, h.output, fun i hi => ?_⟩, h.frz, h.size⟩
  rw [h.block i hi (by simp)]
  split <;> simp_all

theorem heap_setCell_same {w : World} {b o : Nat} {c : Array Value} {t : TypeId} (v : Value) (h : w.heap[b]? = some (.cells c t)) : (w.setCell ⟨b, o, none⟩ v).heap[b]? = some (.cells (c.setIfInBounds o v) t) := by
  simp [World.setCell, Array.getElem?_modify, h]
theorem heap_alloc_same (w : World) (o : Obj) : (w.alloc o).heap[w.heap.size]? = some o := (MapKept.heap_alloc w o).1
theorem cell_of {w : World} {b o : Nat} {c : Array Value} {t : TypeId} (h : w.heap[b]? = some (.cells c t)) : w.cell? ⟨b, o, none⟩ = c[o]? := by simp [World.cell?, h]
theorem frozen_of {w : World} {b o : Nat} {c : Array Value} {t : TypeId} (h : w.heap[b]? = some (.cells c t)) : w.frozen? ⟨b, o, none⟩ = false := by simp [World.frozen?, h]
theorem lt_of {w : World} {b : Nat} {o : Obj} (h : w.heap[b]? = some o) : b < w.heap.size := by
  rcases Nat.lt_or_ge b w.heap.size with h' | h'
  · exact h'
  · rw [Array.getElem?_eq_none h'] at h; cases h

/-- The zero ID, an address:port of the zero address, an entry of the book, the book's cells. -/
abbrev K0 : Value := .agg #[.int .u64 0, .int .u64 0]
abbrev Ad (p : Int) : Value := .agg #[.int .u64 0, .int .u64 0, .pointer none, .int .u16 p]
abbrev EnC (p : Int) (a : Bool) (g : Value) : Array Value := #[.int .u64 0, .int .u64 0, .pointer none, .int .u16 p, .int .u64 0, .int .i64 0, .pointer none, .bool a, g, .int .u8 0, .int .u8 0, .int .u8 0, .int .u8 0, .int .u8 0, .int .u8 0, .int .u8 0, .int .u8 0, .bool false]
abbrev En (p : Int) (a : Bool) (g : Value) : Value := .agg (EnC p a g)
abbrev BkC (m : Nat) : Array Value := #[.int .u64 0, .int .u64 0, .int .i32 0, .int .u32 0, .map (some m)]
/-- Block m: a map of the one entry v at the zero ID. -/
def one (v : Value) : Obj := .map #[{ key := K0, val := v, born := 0 }] 1

theorem look_split (w : World) (m : Nat) (es : Array MapEntry) (clock : Nat) (hb : w.heap[m]? = some (.map es clock)) (k : Value) :
    (Instr.lookup 27 (.map (some m)) k true).run Yba.prog w = (do
      Instr.checkKey es.isEmpty 10000 25 k
      let (v, ok) ← match ← Instr.findKey 25 k es.toList with
        | some (_, v) => pure (v, true)
        | none => pure (← zeroValue 56, false)
      pure (Value.tuple #[v, .bool ok]) : Sem Value).run Yba.prog w := by
  simp [Instr.lookup, run_underlying Yba.underlying27, MapKept.run_getObj_map hb]
  rfl
theorem look_one (w : World) (m : Nat) (v : Value) (hb : w.heap[m]? = some (one v)) :
    (Instr.lookup 27 (.map (some m)) K0 true).run Yba.prog w = .ok (.tuple #[v, .bool true]) w := by
  rw [look_split w m _ _ hb]
  kernel_rfl
theorem look_none (w : World) (m : Nat) (hb : w.heap[m]? = some (.map #[] 0)) :
    (Instr.lookup 27 (.map (some m)) K0 true).run Yba.prog w = .ok (.tuple #[En 0 false (.pointer none), .bool false]) w := by
  rw [look_split w m _ _ hb]
  kernel_rfl

/-! ### (*grant).pay -/
theorem pay_ok (g : Nat) (r : Int) (w : World) (hr : 37 ≤ r) (hr2 : r ≤ 9223372036854775807) (hc : w.cell? ⟨g, 0, none⟩ = some (.int .i64 r)) (hf : w.frozen? ⟨g, 0, none⟩ = false) :
    Calls Yba.prog 10 #[.pointer (some ⟨g, 0, none⟩)] w fun e w' => e = .returned (.bool true) ∧ w' = w.setCell ⟨g, 0, none⟩ (.int .i64 (r - 37)) := by
  go_enter Yba.func10, Yba.ntmps10
  go_wp2
  go_ret
  exact ⟨rfl, rfl⟩
theorem pay_no (g : Nat) (r : Int) (w : World) (hr : r < 37) (hc : w.cell? ⟨g, 0, none⟩ = some (.int .i64 r)) :
    Calls Yba.prog 10 #[.pointer (some ⟨g, 0, none⟩)] w fun e w' => e = .returned (.bool false) ∧ w' = w := by
  go_enter Yba.func10, Yba.ntmps10
  go_wp2
  go_ret
  exact ⟨rfl, rfl⟩
theorem pay_nil (w : World) :
    Calls Yba.prog 10 #[.pointer none] w fun e w' => e = .returned (.bool false) ∧ w' = w := by
  go_enter Yba.func10, Yba.ntmps10
  go_wp2
  go_ret
  exact ⟨rfl, rfl⟩
end Go.Proofs.Ybulkcnny
