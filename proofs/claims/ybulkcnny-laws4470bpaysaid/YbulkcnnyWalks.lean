/-
  Seat b4470a: (*book).payPing and (*book).lookup, walked once: a contract a way. The lock's methods by the library's contracts; the one region that draws its order is walked against an exit that is blind at a panic ('wp_calm').
-/
import Derived.Test.YbulkcnnyBase
import Derived.Test.YbulkcnnyLocks
import Derived.Conc.MuLone
import Derived.RegionTactic
import Derived.BigRegion
import Derived.Deep.DrawnRows
namespace Go.Proofs.Ybulkcnny
open Go.RowKit Go.MuLone
/-- What stands behind the two boxes and the Lock. -/
theorem locked {b m : Nat} {o : Obj} {c1 c2 : Array Value} {w w' : World} (hb : w.heap[b]? = some (.cells (BkC m) 36)) (hm : w.heap[m]? = some o) (hbm : m ≠ b)
    (h : w' = ((w.alloc (.cells c1 25)).alloc (.cells c2 48)).setCell ⟨b, 2, none⟩ (.int .i32 1)) :
    w'.heap.size = w.heap.size + 2 ∧ w'.heap[m]? = some o ∧ w'.heap[b]? = some (.cells #[.int .u64 0, .int .u64 0, .int .i32 1, .int .u32 0, .map (some m)] 36) ∧
    w'.heap[w.heap.size]? = some (.cells c1 25) ∧ w'.heap[w.heap.size + 1]? = some (.cells c2 48) ∧ Kp [b] w w' := by
  have hb0 := lt_of hb
  have hm0 := lt_of hm
  subst h
  refine ⟨by simp, ?_, ?_, ?_, ?_, ?_⟩
  · rw [Below.heap_setCell _ _ _ _ hbm, Below.heap_alloc _ _ _ (by simp; omega), Below.heap_alloc _ _ _ hm0]; exact hm
  · rw [heap_setCell_same _ (c := BkC m) (t := 36) (by rw [Below.heap_alloc _ _ _ (by simp; omega), Below.heap_alloc _ _ _ hb0]; exact hb)]; rfl
  · rw [Below.heap_setCell _ _ _ _ (by simp; omega), Below.heap_alloc _ _ _ (by simp)]; exact heap_alloc_same _ _
  · rw [Below.heap_setCell _ _ _ _ (by simp; omega)]
    have := heap_alloc_same (w.alloc (.cells c1 25)) (.cells c2 48)
    simpa using this
  · exact (((Kp.refl _ w).alloc _ _).alloc _ _).setCell (by simp) _

/-- An entry's value (18 cells), stored whole into the newest block. -/
def cellsIn : Value → Array Value | .agg c => c | _ => #[]
def is18 : Value → Bool | .agg c => c.size == 18 && c.all (·.oneCell') | _ => false
theorem store_new (w : World) (old : Array Value) (hold : old.size = 18) (v : Value) (hv : is18 v = true) :
    Sem.run Yba.prog (Instr.storeAt 56 (.pointer (some ⟨w.heap.size, 0, none⟩)) v) (w.alloc (.cells old 56)) = .ok () (w.alloc (.cells (cellsIn v) 56)) := by
  cases v with
  | agg c =>
    simp only [is18, Bool.and_eq_true, beq_iff_eq] at hv
    have h := run_storeVar_row (P := Yba.prog) (w.alloc (.cells old 56)) w.heap.size 56 56 old c (heap_alloc_same w _) (by rw [hv.1]; kernel_rfl) (by rw [hold, hv.1]) hv.2
    have e : (w.alloc (.cells old 56)).setRow w.heap.size c = w.alloc (.cells c 56) := by
      simp only [World.setRow, World.alloc]
      congr 1
      apply Array.ext_getElem?
      intro k
      simp only [Array.getElem?_modify, Array.getElem?_push]
      by_cases hk : k = w.heap.size
      · subst hk; simp
      · simp [hk, Ne.symm hk]
    rw [e] at h
    simp only [Instr.storeAt, Instr.sureAddr, Sem.run_bind, Sem.run_pure, Result.andThen_ok, h, cellsIn]
  | _ => simp [is18] at hv
theorem wp_store18 (w : World) (x y : Operand) (ty : TypeId) (pos : String) (after : Array Edge) (old : Array Value) (hold : old.size = 18) (a : Act) (hx : a.eval x = .pointer (some ⟨w.heap.size, 0, none⟩)) (hy : is18 (a.eval y) = true) (K : Act → World → Prop) (Q : Exit → Act → World → Prop) :
    Oper.wp Yba.prog ⟨none, .store 56 x y, ty, pos, after, none⟩ a (w.alloc (.cells old 56)) K Q = K a (w.alloc (.cells (cellsIn (a.eval y)) 56)) := by
  unfold Oper.wp execOp
  simp only [hx, Sem.run_bind, store_new w old hold _ hy, Result.andThen_ok, Sem.run_pure, Oper.upon_skip]
  rfl
theorem wp_store18_drew (w : World) (x y : Operand) (ty : TypeId) (pos : String) (after : Array Edge) (old : Array Value) (hold : old.size = 18) (a : Act) (hx : a.eval x = .pointer (some ⟨w.heap.size, 0, none⟩)) (hy : is18 (a.eval y) = true) (K : Act → World → Prop) (Q : Exit → Act → World → Prop) :
    Oper.wp Yba.prog ⟨none, .store 56 x y, ty, pos, after, none⟩ a (w.alloc (.cells old 56)).drew K Q = K a (w.alloc (.cells (cellsIn (a.eval y)) 56)).drew :=
  wp_store18 w.drew x y ty pos after old hold a hx hy K Q
attribute [local go_sem ↓] wp_store18 wp_store18_drew Go.wp_at_zero Go.wp_at_succ
attribute [local go_sem] cellsIn is18 Value.oneCell'
/-- A region behind which the function's deferred calls stand: at a panic's exit nothing is owed if it does not panic: so the region may be walked against an exit that is blind to the frame. -/
theorem wp_calm {P : Program} {c : Code} {K : Act → World → Prop} {Q' : Exit → Act → World → Prop} {a : Act} {w : World} (h : c.wp P (Exit.then K (fun _ _ _ => False)) a w) : c.wp P (Exit.then K Q') a w := by
  refine wp_mono h ?_
  intro e a' w' hq
  cases e with
  | normal => exact hq
  | exit id => exact hq.elim
  | goto l => exact hq.elim
  | ret => exact hq.elim
  | panic ch => exact hq.elim
  | outgrown => exact hq.elim
theorem eq42 (w : World) : Sem.run Yba.prog (Op.equalIn 9997 42 (.pointer none) (.pointer none)) w = .ok true w := by kernel_rfl
/-- The mutex let go: the book's block is as it was. -/
theorem unlocked {b m : Nat} {S : List Nat} {w w2 : World} (hb : w.heap[b]? = some (.cells (BkC m) 36)) (h2 : w2.heap[b]? = some (.cells #[.int .u64 0, .int .u64 0, .int .i32 1, .int .u32 0, .map (some m)] 36)) (hk : Kp (b :: S) w w2) :
    Kp S w (w2.setCell ⟨b, 2, none⟩ (.int .i32 0)) ∧ w2.cell? ⟨b, 2, none⟩ = some (.int .i32 1) ∧ w2.frozen? ⟨b, 2, none⟩ = false := by
  refine ⟨Kp.back (hk.setCell (by simp) _) ?_, cell_of h2, frozen_of h2⟩
  rw [heap_setCell_same _ h2, hb]; rfl

/-! ### (*book).payPing: the six ways through it -/
set_option maxHeartbeats 800000 in
/-- The book holds no entry. -/
theorem payPing_none (b m : Nat) (p : Int) (w : World)
    (hb : w.heap[b]? = some (.cells (BkC m) 36)) (hbm : m ≠ b) (hm : w.heap[m]? = some (.map #[] 0)) :
    Calls Yba.prog 6 #[.pointer (some ⟨b, 0, none⟩), K0, Ad p] w fun e w' => e = .returned (.bool false) ∧ Kp [] w w' := by
  have hb0 := lt_of hb
  go_enter_defers Yba.func6, Yba.ntmps6
  go_wp2_with (go_at_call 8; refine (lock_free Yba.muLib ⟨b, 2, none⟩ _ ?_ ?_).mono ?_)
  · rw [World.cell?_alloc_past _ _ _ (by simp; omega), World.cell?_alloc_past _ _ _ hb0]; exact cell_of hb
  · rw [World.frozen?_alloc_past _ _ _ (by simp; omega), World.frozen?_alloc_past _ _ _ hb0]; exact frozen_of hb
  rintro e w1 ⟨rfl, hw1⟩
  obtain ⟨s1, m1, b1, x1, y1, kp1⟩ := locked hb hm hbm hw1
  have HB : Hid (w.heap[b]? = some (.cells (BkC m) 36)) := hb
  clear hw1 hm hb
  have t4 : w1.cell? ⟨b, 4, none⟩ = some (.map (some m)) := cell_of b1
  have t0 : w1.cell? ⟨w.heap.size, 0, none⟩ = some (.int .u64 0) := cell_of x1
  have t1 : w1.cell? ⟨w.heap.size, 1, none⟩ = some (.int .u64 0) := cell_of x1
  have u0 : w1.cell? ⟨w.heap.size + 1, 0, none⟩ = some (.int .u64 0) := cell_of y1
  have u1 : w1.cell? ⟨w.heap.size + 1, 1, none⟩ = some (.int .u64 0) := cell_of y1
  have u2 : w1.cell? ⟨w.heap.size + 1, 2, none⟩ = some (.pointer none) := cell_of y1
  have u3 : w1.cell? ⟨w.heap.size + 1, 3, none⟩ = some (.int .u16 p) := cell_of y1
  have hl1 := look_none w1.drew m m1
  have hl2 := look_none (w1.alloc (.cells (EnC 0 false (.pointer none)) 56)).drew m ((Below.heap_alloc _ _ _ (lt_of m1)).trans m1)
  have lb : b < w1.heap.size := by omega
  have lx : w.heap.size < w1.heap.size := by omega
  have ly : w.heap.size + 1 < w1.heap.size := by omega
  have B1 : Hid (w1.heap[b]? = some (.cells #[.int .u64 0, .int .u64 0, .int .i32 1, .int .u32 0, .map (some m)] 36)) := b1
  have hpe := eq42
  clear s1 m1 b1 x1 y1
  go_wp2
  refine wp_calm ?_
  go_region
  go_wp2
  obtain ⟨k2, c2, f2⟩ := unlocked (S := []) (w2 := (w1.alloc (.cells (EnC 0 false (.pointer none)) 56)).drew) HB.out ((Below.heap_alloc _ _ _ lb).trans B1.out) (kp1.alloc _ _).drew
  refine leaves_cons (f := 9) (args := #[.pointer (some ⟨b, 2, none⟩)]) (by simp) (by simp [go_sem]) ?_
  refine (unlock_deferred Yba.muLib ⟨b, 2, none⟩ .returning _ c2 f2).mono ?_
  rintro e u' w'' ⟨rfl, rfl, rfl⟩
  exact ⟨_, results_tmp rfl _ _ _, rfl, k2⟩

set_option maxHeartbeats 800000 in
/-- Another port. -/
theorem payPing_other (b m : Nat) (p : Int) (q : Int) (a : Bool) (g : Option Addr) (w : World)
    (hb : w.heap[b]? = some (.cells (BkC m) 36)) (hbm : m ≠ b) (hm : w.heap[m]? = some (one (En q a (.pointer g)))) (hpq : (q == p) = false) :
    Calls Yba.prog 6 #[.pointer (some ⟨b, 0, none⟩), K0, Ad p] w fun e w' => e = .returned (.bool false) ∧ Kp [] w w' := by
  have hb0 := lt_of hb
  go_enter_defers Yba.func6, Yba.ntmps6
  go_wp2_with (go_at_call 8; refine (lock_free Yba.muLib ⟨b, 2, none⟩ _ ?_ ?_).mono ?_)
  · rw [World.cell?_alloc_past _ _ _ (by simp; omega), World.cell?_alloc_past _ _ _ hb0]; exact cell_of hb
  · rw [World.frozen?_alloc_past _ _ _ (by simp; omega), World.frozen?_alloc_past _ _ _ hb0]; exact frozen_of hb
  rintro e w1 ⟨rfl, hw1⟩
  obtain ⟨s1, m1, b1, x1, y1, kp1⟩ := locked hb hm hbm hw1
  have HB : Hid (w.heap[b]? = some (.cells (BkC m) 36)) := hb
  clear hw1 hm hb
  have t4 : w1.cell? ⟨b, 4, none⟩ = some (.map (some m)) := cell_of b1
  have t0 : w1.cell? ⟨w.heap.size, 0, none⟩ = some (.int .u64 0) := cell_of x1
  have t1 : w1.cell? ⟨w.heap.size, 1, none⟩ = some (.int .u64 0) := cell_of x1
  have u0 : w1.cell? ⟨w.heap.size + 1, 0, none⟩ = some (.int .u64 0) := cell_of y1
  have u1 : w1.cell? ⟨w.heap.size + 1, 1, none⟩ = some (.int .u64 0) := cell_of y1
  have u2 : w1.cell? ⟨w.heap.size + 1, 2, none⟩ = some (.pointer none) := cell_of y1
  have u3 : w1.cell? ⟨w.heap.size + 1, 3, none⟩ = some (.int .u16 p) := cell_of y1
  have hl1 := look_one w1.drew m (En q a (.pointer g)) m1
  have hl2 := look_one (w1.alloc (.cells (EnC 0 false (.pointer none)) 56)).drew m (En q a (.pointer g)) ((Below.heap_alloc _ _ _ (lt_of m1)).trans m1)
  have lb : b < w1.heap.size := by omega
  have lx : w.heap.size < w1.heap.size := by omega
  have ly : w.heap.size + 1 < w1.heap.size := by omega
  have B1 : Hid (w1.heap[b]? = some (.cells #[.int .u64 0, .int .u64 0, .int .i32 1, .int .u32 0, .map (some m)] 36)) := b1
  have hpe := eq42
  clear s1 m1 b1 x1 y1
  go_wp2
  refine wp_calm ?_
  go_region
  go_wp2
  obtain ⟨k2, c2, f2⟩ := unlocked (S := []) (w2 := (w1.alloc (.cells (EnC q a (.pointer g)) 56)).drew) HB.out ((Below.heap_alloc _ _ _ lb).trans B1.out) (kp1.alloc _ _).drew
  refine leaves_cons (f := 9) (args := #[.pointer (some ⟨b, 2, none⟩)]) (by simp) (by simp [go_sem]) ?_
  refine (unlock_deferred Yba.muLib ⟨b, 2, none⟩ .returning _ c2 f2).mono ?_
  rintro e u' w'' ⟨rfl, rfl, rfl⟩
  exact ⟨_, results_tmp rfl _ _ _, rfl, k2⟩

set_option maxHeartbeats 800000 in
/-- The node has answered there. -/
theorem payPing_ans (b m : Nat) (p : Int) (g : Option Addr) (w : World)
    (hb : w.heap[b]? = some (.cells (BkC m) 36)) (hbm : m ≠ b) (hm : w.heap[m]? = some (one (En p true (.pointer g)))) :
    Calls Yba.prog 6 #[.pointer (some ⟨b, 0, none⟩), K0, Ad p] w fun e w' => e = .returned (.bool true) ∧ Kp [] w w' := by
  have hb0 := lt_of hb
  go_enter_defers Yba.func6, Yba.ntmps6
  go_wp2_with (go_at_call 8; refine (lock_free Yba.muLib ⟨b, 2, none⟩ _ ?_ ?_).mono ?_)
  · rw [World.cell?_alloc_past _ _ _ (by simp; omega), World.cell?_alloc_past _ _ _ hb0]; exact cell_of hb
  · rw [World.frozen?_alloc_past _ _ _ (by simp; omega), World.frozen?_alloc_past _ _ _ hb0]; exact frozen_of hb
  rintro e w1 ⟨rfl, hw1⟩
  obtain ⟨s1, m1, b1, x1, y1, kp1⟩ := locked hb hm hbm hw1
  have HB : Hid (w.heap[b]? = some (.cells (BkC m) 36)) := hb
  clear hw1 hm hb
  have t4 : w1.cell? ⟨b, 4, none⟩ = some (.map (some m)) := cell_of b1
  have t0 : w1.cell? ⟨w.heap.size, 0, none⟩ = some (.int .u64 0) := cell_of x1
  have t1 : w1.cell? ⟨w.heap.size, 1, none⟩ = some (.int .u64 0) := cell_of x1
  have u0 : w1.cell? ⟨w.heap.size + 1, 0, none⟩ = some (.int .u64 0) := cell_of y1
  have u1 : w1.cell? ⟨w.heap.size + 1, 1, none⟩ = some (.int .u64 0) := cell_of y1
  have u2 : w1.cell? ⟨w.heap.size + 1, 2, none⟩ = some (.pointer none) := cell_of y1
  have u3 : w1.cell? ⟨w.heap.size + 1, 3, none⟩ = some (.int .u16 p) := cell_of y1
  have hl1 := look_one w1.drew m (En p true (.pointer g)) m1
  have hl2 := look_one (w1.alloc (.cells (EnC 0 false (.pointer none)) 56)).drew m (En p true (.pointer g)) ((Below.heap_alloc _ _ _ (lt_of m1)).trans m1)
  have lb : b < w1.heap.size := by omega
  have lx : w.heap.size < w1.heap.size := by omega
  have ly : w.heap.size + 1 < w1.heap.size := by omega
  have B1 : Hid (w1.heap[b]? = some (.cells #[.int .u64 0, .int .u64 0, .int .i32 1, .int .u32 0, .map (some m)] 36)) := b1
  have hpe := eq42
  clear s1 m1 b1 x1 y1
  go_wp2
  refine wp_calm ?_
  go_region
  go_wp2
  obtain ⟨k2, c2, f2⟩ := unlocked (S := []) (w2 := (w1.alloc (.cells (EnC p true (.pointer g)) 56)).drew) HB.out ((Below.heap_alloc _ _ _ lb).trans B1.out) (kp1.alloc _ _).drew
  refine leaves_cons (f := 9) (args := #[.pointer (some ⟨b, 2, none⟩)]) (by simp) (by simp [go_sem]) ?_
  refine (unlock_deferred Yba.muLib ⟨b, 2, none⟩ .returning _ c2 f2).mono ?_
  rintro e u' w'' ⟨rfl, rfl, rfl⟩
  exact ⟨_, results_tmp rfl _ _ _, rfl, k2⟩

set_option maxHeartbeats 800000 in
/-- It has not, and there is no grant. -/
theorem payPing_nil (b m : Nat) (p : Int) (w : World)
    (hb : w.heap[b]? = some (.cells (BkC m) 36)) (hbm : m ≠ b) (hm : w.heap[m]? = some (one (En p false (.pointer none)))) :
    Calls Yba.prog 6 #[.pointer (some ⟨b, 0, none⟩), K0, Ad p] w fun e w' => e = .returned (.bool false) ∧ Kp [] w w' := by
  have hb0 := lt_of hb
  go_enter_defers Yba.func6, Yba.ntmps6
  go_wp2_with (go_at_call 8; refine (lock_free Yba.muLib ⟨b, 2, none⟩ _ ?_ ?_).mono ?_)
  · rw [World.cell?_alloc_past _ _ _ (by simp; omega), World.cell?_alloc_past _ _ _ hb0]; exact cell_of hb
  · rw [World.frozen?_alloc_past _ _ _ (by simp; omega), World.frozen?_alloc_past _ _ _ hb0]; exact frozen_of hb
  rintro e w1 ⟨rfl, hw1⟩
  obtain ⟨s1, m1, b1, x1, y1, kp1⟩ := locked hb hm hbm hw1
  have HB : Hid (w.heap[b]? = some (.cells (BkC m) 36)) := hb
  clear hw1 hm hb
  have t4 : w1.cell? ⟨b, 4, none⟩ = some (.map (some m)) := cell_of b1
  have t0 : w1.cell? ⟨w.heap.size, 0, none⟩ = some (.int .u64 0) := cell_of x1
  have t1 : w1.cell? ⟨w.heap.size, 1, none⟩ = some (.int .u64 0) := cell_of x1
  have u0 : w1.cell? ⟨w.heap.size + 1, 0, none⟩ = some (.int .u64 0) := cell_of y1
  have u1 : w1.cell? ⟨w.heap.size + 1, 1, none⟩ = some (.int .u64 0) := cell_of y1
  have u2 : w1.cell? ⟨w.heap.size + 1, 2, none⟩ = some (.pointer none) := cell_of y1
  have u3 : w1.cell? ⟨w.heap.size + 1, 3, none⟩ = some (.int .u16 p) := cell_of y1
  have hl1 := look_one w1.drew m (En p false (.pointer none)) m1
  have hl2 := look_one (w1.alloc (.cells (EnC 0 false (.pointer none)) 56)).drew m (En p false (.pointer none)) ((Below.heap_alloc _ _ _ (lt_of m1)).trans m1)
  have lb : b < w1.heap.size := by omega
  have lx : w.heap.size < w1.heap.size := by omega
  have ly : w.heap.size + 1 < w1.heap.size := by omega
  have B1 : Hid (w1.heap[b]? = some (.cells #[.int .u64 0, .int .u64 0, .int .i32 1, .int .u32 0, .map (some m)] 36)) := b1
  have hpe := eq42
  clear s1 m1 b1 x1 y1
  go_wp2
  refine wp_calm ?_
  go_region
  go_wp2_with (go_at_call 10; refine (pay_nil _).mono ?_; rintro e w' ⟨rfl, rfl⟩)
  obtain ⟨k2, c2, f2⟩ := unlocked (S := []) (w2 := (w1.alloc (.cells (EnC p false (.pointer none)) 56)).drew) HB.out ((Below.heap_alloc _ _ _ lb).trans B1.out) (kp1.alloc _ _).drew
  refine leaves_cons (f := 9) (args := #[.pointer (some ⟨b, 2, none⟩)]) (by simp) (by simp [go_sem]) ?_
  refine (unlock_deferred Yba.muLib ⟨b, 2, none⟩ .returning _ c2 f2).mono ?_
  rintro e u' w'' ⟨rfl, rfl, rfl⟩
  exact ⟨_, results_tmp rfl _ _ _, rfl, k2⟩

set_option maxHeartbeats 800000 in
/-- The grant does not hold the bytes of a ping. -/
theorem payPing_no (b m : Nat) (p : Int) (g : Nat) (r : Int) (w : World)
    (hb : w.heap[b]? = some (.cells (BkC m) 36)) (hbm : m ≠ b) (hm : w.heap[m]? = some (one (En p false (.pointer (some ⟨g, 0, none⟩))))) (hgb : g ≠ b) (hg : w.heap[g]? = some (.cells #[.int .i64 r] 39)) (hr : r < 37) :
    Calls Yba.prog 6 #[.pointer (some ⟨b, 0, none⟩), K0, Ad p] w fun e w' => e = .returned (.bool false) ∧ Kp [] w w' := by
  have hb0 := lt_of hb
  go_enter_defers Yba.func6, Yba.ntmps6
  go_wp2_with (go_at_call 8; refine (lock_free Yba.muLib ⟨b, 2, none⟩ _ ?_ ?_).mono ?_)
  · rw [World.cell?_alloc_past _ _ _ (by simp; omega), World.cell?_alloc_past _ _ _ hb0]; exact cell_of hb
  · rw [World.frozen?_alloc_past _ _ _ (by simp; omega), World.frozen?_alloc_past _ _ _ hb0]; exact frozen_of hb
  rintro e w1 ⟨rfl, hw1⟩
  obtain ⟨s1, m1, b1, x1, y1, kp1⟩ := locked hb hm hbm hw1
  have HB : Hid (w.heap[b]? = some (.cells (BkC m) 36)) := hb
  have hg1 : w1.heap[g]? = some (.cells #[.int .i64 r] 39) := (kp1.block g (lt_of hg) (by simpa using hgb)).trans hg
  have cg : w1.cell? ⟨g, 0, none⟩ = some (.int .i64 r) := cell_of hg1
  have fg : w1.frozen? ⟨g, 0, none⟩ = false := frozen_of hg1
  have lg : g < w1.heap.size := lt_of hg1
  have G1 : Hid (w1.heap[g]? = some (.cells #[.int .i64 r] 39)) := hg1
  clear hg1 hg
  clear hw1 hm hb
  have t4 : w1.cell? ⟨b, 4, none⟩ = some (.map (some m)) := cell_of b1
  have t0 : w1.cell? ⟨w.heap.size, 0, none⟩ = some (.int .u64 0) := cell_of x1
  have t1 : w1.cell? ⟨w.heap.size, 1, none⟩ = some (.int .u64 0) := cell_of x1
  have u0 : w1.cell? ⟨w.heap.size + 1, 0, none⟩ = some (.int .u64 0) := cell_of y1
  have u1 : w1.cell? ⟨w.heap.size + 1, 1, none⟩ = some (.int .u64 0) := cell_of y1
  have u2 : w1.cell? ⟨w.heap.size + 1, 2, none⟩ = some (.pointer none) := cell_of y1
  have u3 : w1.cell? ⟨w.heap.size + 1, 3, none⟩ = some (.int .u16 p) := cell_of y1
  have hl1 := look_one w1.drew m (En p false (.pointer (some ⟨g, 0, none⟩))) m1
  have hl2 := look_one (w1.alloc (.cells (EnC 0 false (.pointer none)) 56)).drew m (En p false (.pointer (some ⟨g, 0, none⟩))) ((Below.heap_alloc _ _ _ (lt_of m1)).trans m1)
  have lb : b < w1.heap.size := by omega
  have lx : w.heap.size < w1.heap.size := by omega
  have ly : w.heap.size + 1 < w1.heap.size := by omega
  have B1 : Hid (w1.heap[b]? = some (.cells #[.int .u64 0, .int .u64 0, .int .i32 1, .int .u32 0, .map (some m)] 36)) := b1
  have hpe := eq42
  clear s1 m1 b1 x1 y1
  go_wp2
  refine wp_calm ?_
  go_region
  go_wp2_with fail
  refine (pay_no g r _ hr ?_).mono ?_
  · exact (World.cell?_alloc_past _ _ _ lg).trans cg
  rintro e w' ⟨rfl, rfl⟩
  go_wp2
  obtain ⟨k2, c2, f2⟩ := unlocked (S := []) (w2 := (w1.alloc (.cells (EnC p false (.pointer (some ⟨g, 0, none⟩))) 56)).drew) HB.out ((Below.heap_alloc _ _ _ lb).trans B1.out) (kp1.alloc _ _).drew
  refine leaves_cons (f := 9) (args := #[.pointer (some ⟨b, 2, none⟩)]) (by simp) (by simp [go_sem]) ?_
  refine (unlock_deferred Yba.muLib ⟨b, 2, none⟩ .returning _ c2 f2).mono ?_
  rintro e u' w'' ⟨rfl, rfl, rfl⟩
  exact ⟨_, results_tmp rfl _ _ _, rfl, k2⟩

set_option maxHeartbeats 800000 in
/-- It does: they are taken from it. -/
theorem payPing_ok (b m : Nat) (p : Int) (g : Nat) (r : Int) (w : World)
    (hb : w.heap[b]? = some (.cells (BkC m) 36)) (hbm : m ≠ b) (hm : w.heap[m]? = some (one (En p false (.pointer (some ⟨g, 0, none⟩))))) (hgb : g ≠ b) (hg : w.heap[g]? = some (.cells #[.int .i64 r] 39)) (hr : 37 ≤ r) (hr2 : r ≤ 9223372036854775807) :
    Calls Yba.prog 6 #[.pointer (some ⟨b, 0, none⟩), K0, Ad p] w fun e w' => e = .returned (.bool true) ∧ Kp [g] w w' ∧ w'.heap[g]? = some (.cells #[.int .i64 (r - 37)] 39) := by
  have hb0 := lt_of hb
  go_enter_defers Yba.func6, Yba.ntmps6
  go_wp2_with (go_at_call 8; refine (lock_free Yba.muLib ⟨b, 2, none⟩ _ ?_ ?_).mono ?_)
  · rw [World.cell?_alloc_past _ _ _ (by simp; omega), World.cell?_alloc_past _ _ _ hb0]; exact cell_of hb
  · rw [World.frozen?_alloc_past _ _ _ (by simp; omega), World.frozen?_alloc_past _ _ _ hb0]; exact frozen_of hb
  rintro e w1 ⟨rfl, hw1⟩
  obtain ⟨s1, m1, b1, x1, y1, kp1⟩ := locked hb hm hbm hw1
  have HB : Hid (w.heap[b]? = some (.cells (BkC m) 36)) := hb
  have hg1 : w1.heap[g]? = some (.cells #[.int .i64 r] 39) := (kp1.block g (lt_of hg) (by simpa using hgb)).trans hg
  have cg : w1.cell? ⟨g, 0, none⟩ = some (.int .i64 r) := cell_of hg1
  have fg : w1.frozen? ⟨g, 0, none⟩ = false := frozen_of hg1
  have lg : g < w1.heap.size := lt_of hg1
  have G1 : Hid (w1.heap[g]? = some (.cells #[.int .i64 r] 39)) := hg1
  clear hg1 hg
  clear hw1 hm hb
  have t4 : w1.cell? ⟨b, 4, none⟩ = some (.map (some m)) := cell_of b1
  have t0 : w1.cell? ⟨w.heap.size, 0, none⟩ = some (.int .u64 0) := cell_of x1
  have t1 : w1.cell? ⟨w.heap.size, 1, none⟩ = some (.int .u64 0) := cell_of x1
  have u0 : w1.cell? ⟨w.heap.size + 1, 0, none⟩ = some (.int .u64 0) := cell_of y1
  have u1 : w1.cell? ⟨w.heap.size + 1, 1, none⟩ = some (.int .u64 0) := cell_of y1
  have u2 : w1.cell? ⟨w.heap.size + 1, 2, none⟩ = some (.pointer none) := cell_of y1
  have u3 : w1.cell? ⟨w.heap.size + 1, 3, none⟩ = some (.int .u16 p) := cell_of y1
  have hl1 := look_one w1.drew m (En p false (.pointer (some ⟨g, 0, none⟩))) m1
  have hl2 := look_one (w1.alloc (.cells (EnC 0 false (.pointer none)) 56)).drew m (En p false (.pointer (some ⟨g, 0, none⟩))) ((Below.heap_alloc _ _ _ (lt_of m1)).trans m1)
  have lb : b < w1.heap.size := by omega
  have lx : w.heap.size < w1.heap.size := by omega
  have ly : w.heap.size + 1 < w1.heap.size := by omega
  have B1 : Hid (w1.heap[b]? = some (.cells #[.int .u64 0, .int .u64 0, .int .i32 1, .int .u32 0, .map (some m)] 36)) := b1
  have hpe := eq42
  clear s1 m1 b1 x1 y1
  go_wp2
  refine wp_calm ?_
  go_region
  go_wp2_with fail
  refine (pay_ok g r _ hr hr2 ?_ ?_).mono ?_
  · exact (World.cell?_alloc_past _ _ _ lg).trans cg
  · exact (World.frozen?_alloc_past _ _ _ lg).trans fg
  rintro e w2 ⟨rfl, hw2⟩
  have hb2 : w2.heap[b]? = some (.cells #[.int .u64 0, .int .u64 0, .int .i32 1, .int .u32 0, .map (some m)] 36) := by
    rw [hw2, Below.heap_setCell _ _ _ _ (Ne.symm hgb)]; exact (Below.heap_alloc _ _ _ lb).trans B1.out
  have kp2 : Kp [b, g] w w2 := by
    rw [hw2]; exact (((kp1.alloc _ _).drew).mono (by simp)).setCell (by simp) _
  have hg2 : w2.heap[g]? = some (.cells #[.int .i64 (r - 37)] 39) := by
    rw [hw2]
    exact heap_setCell_same (w := (w1.alloc (.cells (EnC p false (.pointer (some ⟨g, 0, none⟩))) 56)).drew) (o := 0) (.int .i64 (r - 37)) ((Below.heap_alloc _ _ _ lg).trans G1.out)
  obtain ⟨k2, c2, f2⟩ := unlocked (S := [g]) HB.out hb2 kp2
  have HG : Hid ((w2.setCell ⟨b, 2, none⟩ (.int .i32 0)).heap[g]? = some (.cells #[.int .i64 (r - 37)] 39)) := (Below.heap_setCell _ _ _ _ hgb).trans hg2
  clear hw2 hb2 hg2
  go_wp2
  refine leaves_cons (f := 9) (args := #[.pointer (some ⟨b, 2, none⟩)]) (by simp) (by simp [go_sem]) ?_
  refine (unlock_deferred Yba.muLib ⟨b, 2, none⟩ .returning _ c2 f2).mono ?_
  rintro e u' w'' ⟨rfl, rfl, rfl⟩
  exact ⟨_, results_tmp rfl _ _ _, rfl, k2, HG.out⟩

end Go.Proofs.Ybulkcnny
