/-
  Seat b4470a: (*book).lookup, walked once: the book holds no entry, or one.
-/
import Derived.Test.YbulkcnnyMaps
namespace Go.Proofs.Ybulkcnny
open Go.RowKit Go.MuLone
attribute [local go_sem ↓] wp_store18 wp_store18_drew Go.wp_at_zero Go.wp_at_succ
attribute [local go_sem] cellsIn is18 Value.oneCell'

theorem wp_load18_drew (w : World) (x : Operand) (d : Tmp) (ty : TypeId) (pos : String) (after : Array Edge) (c : Array Value) (hc : c.size = 18) (a : Act) (hx : a.eval x = .pointer (some ⟨w.heap.size, 0, none⟩)) (K : Act → World → Prop) (Q : Exit → Act → World → Prop) :
    Oper.wp Yba.prog ⟨some d, .load 56 x, ty, pos, after, none⟩ a (w.alloc (.cells c 56)).drew K Q = K (a.put (some d) (.agg c)) (w.alloc (.cells c 56)).drew := by
  unfold Oper.wp execOp
  simp only [hx, Instr.loadAt, Instr.sureAddr, Sem.run_bind, Sem.run_pure, Result.andThen_ok, run_loadVar_row (P := Yba.prog) (w.alloc (.cells c 56)).drew w.heap.size 56 56 c (0, 0) _ (heap_alloc_same w _) Yba.underlying56 rfl (by rw [hc]; kernel_rfl), Oper.upon_value]
attribute [local go_sem ↓] wp_load18_drew
/-- What lookup hands back: its first result lies in memory. -/
theorem results_look (tmps : Array Value) (w : World) (n : Nat) (c : Array Value) (v : Value) (h4 : tmps.getD 4 undef = .pointer (some ⟨n, 0, none⟩)) (h5 : tmps.getD 5 undef = v) (hg : w.heap[n]? = some (.cells c 56)) (hc : c.size = 18) :
    (results Yba.f7 tmps).run Yba.prog w = .ok (.tuple #[.agg c, v]) w := by
  have hp' : tmps[4]?.getD undef = .pointer (some ⟨n, 0, none⟩) := by simpa using h4
  have hq' : tmps[5]?.getD undef = v := by simpa using h5
  simp [results, Yba.results7, hp', hq', asAddr, run_loadVar_row (P := Yba.prog) w n 56 56 c (0, 0) _ hg Yba.underlying56 rfl (by rw [hc]; kernel_rfl)]
/-- What stands behind two new blocks and the Lock. -/
theorem locked2 {b m : Nat} {o : Obj} {c1 c2 : Array Value} {t1 t2 : TypeId} {w w' : World} (hb : w.heap[b]? = some (.cells (BkC m) 36)) (hm : w.heap[m]? = some o) (hbm : m ≠ b)
    (h : w' = ((w.alloc (.cells c1 t1)).alloc (.cells c2 t2)).setCell ⟨b, 2, none⟩ (.int .i32 1)) :
    w'.heap.size = w.heap.size + 2 ∧ w'.heap[m]? = some o ∧ w'.heap[b]? = some (.cells #[.int .u64 0, .int .u64 0, .int .i32 1, .int .u32 0, .map (some m)] 36) ∧
    w'.heap[w.heap.size]? = some (.cells c1 t1) ∧ w'.heap[w.heap.size + 1]? = some (.cells c2 t2) ∧ Kp [b] w w' := by
  have hb0 := lt_of hb
  have hm0 := lt_of hm
  subst h
  refine ⟨by simp, ?_, ?_, ?_, ?_, ?_⟩
  · rw [Below.heap_setCell _ _ _ _ hbm, Below.heap_alloc _ _ _ (by simp; omega), Below.heap_alloc _ _ _ hm0]; exact hm
  · rw [heap_setCell_same _ (c := BkC m) (t := 36) (by rw [Below.heap_alloc _ _ _ (by simp; omega), Below.heap_alloc _ _ _ hb0]; exact hb)]; rfl
  · rw [Below.heap_setCell _ _ _ _ (by simp; omega), Below.heap_alloc _ _ _ (by simp)]; exact heap_alloc_same _ _
  · rw [Below.heap_setCell _ _ _ _ (by simp; omega)]
    exact heap_alloc_at _ _ (by simp)
  · exact (((Kp.refl _ w).alloc _ _).alloc _ _).setCell (by simp) _
theorem frozen?_setRow (w : World) (g : Nat) (cs : Array Value) (a : Addr) : (w.setRow g cs).frozen? a = w.frozen? a := by
  simp only [World.setRow, World.frozen?, Array.getElem?_modify]
  by_cases hb : g = a.block
  · simp only [hb, if_true]
    cases hh : w.heap[a.block]? with
    | none => simp
    | some x => cases x <;> simp
  · simp [hb]
theorem Kp.setRow {S : List Nat} {a w : World} (h : Kp S a w) {g : Nat} (hg : a.heap.size ≤ g) (cs : Array Value) : Kp S a (w.setRow g cs) :=
  ⟨h.os, h.tape, h.output, by simpa using h.size, fun k hk hs => (setRow_other w g k cs (by omega)).trans (h.block k hk hs), fun x => (frozen?_setRow _ _ _ _).trans (h.frz x)⟩

set_option maxHeartbeats 1600000 in
theorem lookup_one (b m : Nat) (p : Int) (a : Bool) (g : Option Addr) (w : World)
    (hb : w.heap[b]? = some (.cells (BkC m) 36)) (hbm : m ≠ b) (hm : w.heap[m]? = some (one (En p a (.pointer g)))) :
    Calls Yba.prog 7 #[.pointer (some ⟨b, 0, none⟩), K0] w fun e w' => e = .returned (.tuple #[En p a (.pointer g), .bool true]) ∧ Kp [] w w' := by
  have hb0 := lt_of hb
  go_enter_defers Yba.func7, Yba.ntmps7
  go_wp2_with (go_at_call 8; refine (lock_free Yba.muLib ⟨b, 2, none⟩ _ ?_ ?_).mono ?_)
  · rw [World.cell?_alloc_past _ _ _ (by simp; omega), World.cell?_alloc_past _ _ _ hb0]; exact cell_of hb
  · rw [World.frozen?_alloc_past _ _ _ (by simp; omega), World.frozen?_alloc_past _ _ _ hb0]; exact frozen_of hb
  rintro e w1 ⟨rfl, hw1⟩
  obtain ⟨s1, m1, b1, x1, y1, kp1⟩ := locked2 hb hm hbm hw1
  have HB : Hid (w.heap[b]? = some (.cells (BkC m) 36)) := hb
  clear hw1 hm hb
  have t4 : w1.cell? ⟨b, 4, none⟩ = some (.map (some m)) := cell_of b1
  have t0 : w1.cell? ⟨w.heap.size, 0, none⟩ = some (.int .u64 0) := cell_of x1
  have t1 : w1.cell? ⟨w.heap.size, 1, none⟩ = some (.int .u64 0) := cell_of x1
  have hl1 := look_one w1.drew m (En p a (.pointer g)) m1
  have hl2 := look_one (w1.alloc (.cells (EnC 0 false (.pointer none)) 56)).drew m (En p a (.pointer g)) ((Below.heap_alloc _ _ _ (lt_of m1)).trans m1)
  have lb : b < w1.heap.size := by omega
  have lx : w.heap.size < w1.heap.size := by omega
  have ly : w.heap.size + 1 < w1.heap.size := by omega
  have lbx : b ≠ w.heap.size + 1 := by omega
  have B1 : Hid (w1.heap[b]? = some (.cells #[.int .u64 0, .int .u64 0, .int .i32 1, .int .u32 0, .map (some m)] 36)) := b1
  have Y1 : Hid (w1.heap[w.heap.size + 1]? = some (.cells (EnC 0 false (.pointer none)) 56)) := y1
  clear s1 m1 b1 x1 y1
  go_wp2
  refine wp_calm ?_
  go_region
  have HS : (w1.alloc (.cells (EnC p a (.pointer g)) 56)).drew.heap[w.heap.size + 1]? = some (.cells (EnC 0 false (.pointer none)) 56 (0, 0)) := (Below.heap_alloc _ _ _ ly).trans Y1.out
  have HK : Kp [b] w (w1.alloc (.cells (EnC p a (.pointer g)) 56)).drew := (kp1.alloc _ _).drew
  have HC : (w1.alloc (.cells (EnC p a (.pointer g)) 56)).drew.heap[b]? = some (.cells #[.int .u64 0, .int .u64 0, .int .i32 1, .int .u32 0, .map (some m)] 36) := (Below.heap_alloc _ _ _ lb).trans B1.out
  have hE := setRow_heap _ (w.heap.size + 1) _ (EnC p a (.pointer g)) 56 (0, 0) HS
  have hF := (setRow_other _ (w.heap.size + 1) b (EnC p a (.pointer g)) lbx).trans HC
  have hK := HK.setRow (g := w.heap.size + 1) (by omega) (EnC p a (.pointer g))
  have HE := (show Hid _ from hE)
  have HF := (show Hid _ from hF)
  have HSS := (show Hid _ from HS)
  clear hE hF HS HC HK
  go_wp2_with (refine wpList_store_row rfl 56 (.tmp 4) (.tmp 24) rfl (w.heap.size + 1) (EnC p a (.pointer g)) rfl rfl 56 (EnC 0 false (.pointer none)) HSS.out (by kernel_rfl) rfl (by simp [Value.oneCell']) ?_; generalize (w1.alloc (.cells (EnC p a (.pointer g)) 56)).drew.setRow (w.heap.size + 1) (EnC p a (.pointer g)) = w2 at HE HF hK)
  obtain ⟨k2, c2, f2⟩ := unlocked (S := []) HB.out HF.out hK
  refine leaves_cons (f := 9) (args := #[.pointer (some ⟨b, 2, none⟩)]) (by simp) (by simp [go_sem]) ?_
  refine (unlock_deferred Yba.muLib ⟨b, 2, none⟩ .returning _ c2 f2).mono ?_
  rintro e u' w'' ⟨rfl, rfl, rfl⟩
  exact ⟨_, results_look _ _ (w.heap.size + 1) (EnC p a (.pointer g)) (.bool true) rfl rfl ((Below.heap_setCell _ _ _ _ (Ne.symm lbx)).trans HE.out) rfl, rfl, k2⟩

set_option maxHeartbeats 1600000 in
theorem lookup_none (b m : Nat) (w : World)
    (hb : w.heap[b]? = some (.cells (BkC m) 36)) (hbm : m ≠ b) (hm : w.heap[m]? = some (.map #[] 0)) :
    Calls Yba.prog 7 #[.pointer (some ⟨b, 0, none⟩), K0] w fun e w' => e = .returned (.tuple #[En 0 false (.pointer none), .bool false]) ∧ Kp [] w w' := by
  have hb0 := lt_of hb
  go_enter_defers Yba.func7, Yba.ntmps7
  go_wp2_with (go_at_call 8; refine (lock_free Yba.muLib ⟨b, 2, none⟩ _ ?_ ?_).mono ?_)
  · rw [World.cell?_alloc_past _ _ _ (by simp; omega), World.cell?_alloc_past _ _ _ hb0]; exact cell_of hb
  · rw [World.frozen?_alloc_past _ _ _ (by simp; omega), World.frozen?_alloc_past _ _ _ hb0]; exact frozen_of hb
  rintro e w1 ⟨rfl, hw1⟩
  obtain ⟨s1, m1, b1, x1, y1, kp1⟩ := locked2 hb hm hbm hw1
  have HB : Hid (w.heap[b]? = some (.cells (BkC m) 36)) := hb
  clear hw1 hm hb
  have t4 : w1.cell? ⟨b, 4, none⟩ = some (.map (some m)) := cell_of b1
  have t0 : w1.cell? ⟨w.heap.size, 0, none⟩ = some (.int .u64 0) := cell_of x1
  have t1 : w1.cell? ⟨w.heap.size, 1, none⟩ = some (.int .u64 0) := cell_of x1
  have hl1 := look_none w1.drew m m1
  have hl2 := look_none (w1.alloc (.cells (EnC 0 false (.pointer none)) 56)).drew m ((Below.heap_alloc _ _ _ (lt_of m1)).trans m1)
  have lb : b < w1.heap.size := by omega
  have lx : w.heap.size < w1.heap.size := by omega
  have ly : w.heap.size + 1 < w1.heap.size := by omega
  have lbx : b ≠ w.heap.size + 1 := by omega
  have B1 : Hid (w1.heap[b]? = some (.cells #[.int .u64 0, .int .u64 0, .int .i32 1, .int .u32 0, .map (some m)] 36)) := b1
  have Y1 : Hid (w1.heap[w.heap.size + 1]? = some (.cells (EnC 0 false (.pointer none)) 56)) := y1
  clear s1 m1 b1 x1 y1
  go_wp2
  refine wp_calm ?_
  go_region
  have HS : (w1.alloc (.cells (EnC 0 false (.pointer none)) 56)).drew.heap[w.heap.size + 1]? = some (.cells (EnC 0 false (.pointer none)) 56 (0, 0)) := (Below.heap_alloc _ _ _ ly).trans Y1.out
  have HK : Kp [b] w (w1.alloc (.cells (EnC 0 false (.pointer none)) 56)).drew := (kp1.alloc _ _).drew
  have HC : (w1.alloc (.cells (EnC 0 false (.pointer none)) 56)).drew.heap[b]? = some (.cells #[.int .u64 0, .int .u64 0, .int .i32 1, .int .u32 0, .map (some m)] 36) := (Below.heap_alloc _ _ _ lb).trans B1.out
  have hE := setRow_heap _ (w.heap.size + 1) _ (EnC 0 false (.pointer none)) 56 (0, 0) HS
  have hF := (setRow_other _ (w.heap.size + 1) b (EnC 0 false (.pointer none)) lbx).trans HC
  have hK := HK.setRow (g := w.heap.size + 1) (by omega) (EnC 0 false (.pointer none))
  have HE := (show Hid _ from hE)
  have HF := (show Hid _ from hF)
  have HSS := (show Hid _ from HS)
  clear hE hF HS HC HK
  go_wp2_with (refine wpList_store_row rfl 56 (.tmp 4) (.tmp 24) rfl (w.heap.size + 1) (EnC 0 false (.pointer none)) rfl rfl 56 (EnC 0 false (.pointer none)) HSS.out (by kernel_rfl) rfl (by simp [Value.oneCell']) ?_; generalize (w1.alloc (.cells (EnC 0 false (.pointer none)) 56)).drew.setRow (w.heap.size + 1) (EnC 0 false (.pointer none)) = w2 at HE HF hK)
  obtain ⟨k2, c2, f2⟩ := unlocked (S := []) HB.out HF.out hK
  refine leaves_cons (f := 9) (args := #[.pointer (some ⟨b, 2, none⟩)]) (by simp) (by simp [go_sem]) ?_
  refine (unlock_deferred Yba.muLib ⟨b, 2, none⟩ .returning _ c2 f2).mono ?_
  rintro e u' w'' ⟨rfl, rfl, rfl⟩
  exact ⟨_, results_look _ _ (w.heap.size + 1) (EnC 0 false (.pointer none)) (.bool false) rfl rfl ((Below.heap_setCell _ _ _ _ (Ne.symm lbx)).trans HE.out) rfl, rfl, k2⟩
end Go.Proofs.Ybulkcnny
