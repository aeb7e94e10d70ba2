/-
  Seat b4471a, Forward and Back: fromPlace.
-/
import Derived.Test.YbulkcnomWalkT
namespace Go.Proofs.Ybulkcnom
open Go.RowKit
attribute [local go_sem ↓] Go.wp_at_zero Go.wp_at_succ
theorem run_store_func (P : Program) (w : World) (a : Addr) (f : Fn) (r c : Array Value) (m : Mode) : type_of% (run_store P w a (.func f r c) m rfl) := run_store P w a (.func f r c) m rfl
attribute [local go_sem] run_store_func
theorem enter22 (args : Array Value) (w : World) : Sem.run Yba.prog (callFunc 22 args) w = .ok (.enter 22 args) w := by kernel_rfl
/-- The entries at or behind the place. -/
def fromP (q : Int) (at_ : Bool) (x : Int) : Bool := st (cmp3 x q) at_
theorem fromP_eq (q : Int) (at_ : Bool) (x : Int) : fromP q at_ x = (decide (q < x) || (decide (x = q) && at_)) := by
  unfold fromP st cmp3
  by_cases h1 : x < q
  · have h2 : ¬ q < x := by omega
    have h3 : ¬ x = q := by omega
    simp [h1, h2, h3]
  · by_cases h2 : q < x
    · simp [h1, h2]
    · have h3 : x = q := by omega
      subst h3
      simp
theorem fromP_mono (q : Int) (at_ : Bool) : ∀ x y, x ≤ y → fromP q at_ x = true → fromP q at_ y = true := by
  intro x y h hx
  rw [fromP_eq] at hx ⊢
  simp at hx ⊢
  rcases hx with h1 | ⟨h1, h2⟩
  · left; omega
  · by_cases e : y = q
    · exact .inr ⟨e, h2⟩
    · left; omega
set_option maxRecDepth 20000 in
set_option maxHeartbeats 3200000 in
theorem fromF (N tb mb : Nat) (sh a b c q pk : Int) (at_ : Bool) (L : List Leaf) (w : World) (hR : Rep N w mb sh L) (hs : Srt L) (htab : w.heap[tb]? = some (.cells (TC mb) 56)) :
    Calls Yba.prog 9 #[P tb, .agg (VwC a b c), .agg (PlC q pk), .bool at_, .bool false] w fun e w' => ∃ l i : Nat, e = .returned (.agg (WC tb mb a b c false l i sh)) ∧ Pos (fromP q at_) L l i ∧ Kp [mb] w w' ∧ Rep N w' mb sh L := by
  obtain ⟨B, hB⟩ : ∃ B, B = w.heap.size := ⟨_, rfl⟩
  obtain ⟨W, hW⟩ : ∃ W, W = ((((((w.alloc (.cells (VwC a b c) 31)).alloc (.cells (PlC q pk) 47)).alloc (.cells #[.bool at_] 4)).alloc (.cells WZ 40)).alloc (.cells #[.func (.func 20) #[] #[P (B + 1 + 1)]] 72)).alloc (.cells #[.int .u8 1, .int .i64 q, .string ⟨#[]⟩, .int .u8 1, .int .i64 pk, .string ⟨#[]⟩] 74)) := ⟨_, rfl⟩
  have hK : Kp [] w W := by rw [hW]; exact ((((((Kp.refl _ _).alloc _).alloc _).alloc _).alloc _).alloc _).alloc _
  have x0 : W.heap[B]? = some (.cells (VwC a b c) 31) := by rw [hW]; exact ((((((Kp.refl [] _).alloc _).alloc _).alloc _).alloc _).alloc _).at (heap_alloc_at _ _ hB) (by simp)
  have x1 : W.heap[B + 1]? = some (.cells (PlC q pk) 47) := by rw [hW]; exact (((((Kp.refl [] _).alloc _).alloc _).alloc _).alloc _).at (heap_alloc_at _ _ (by simp [hB])) (by simp)
  have x2 : W.heap[B + 1 + 1]? = some (.cells #[.bool at_] 4) := by rw [hW]; exact ((((Kp.refl [] _).alloc _).alloc _).alloc _).at (heap_alloc_at _ _ (by simp [hB])) (by simp)
  have x3 : W.heap[B + 1 + 1 + 1]? = some (.cells WZ 40) := by rw [hW]; exact (((Kp.refl [] _).alloc _).alloc _).at (heap_alloc_at _ _ (by simp [hB])) (by simp)
  have x4 : W.heap[B + 1 + 1 + 1 + 1]? = some (.cells #[.func (.func 20) #[] #[P (B + 1 + 1)]] 72) := by rw [hW]; exact ((Kp.refl [] _).alloc _).at (heap_alloc_at _ _ (by simp [hB])) (by simp)
  have t0 := hK.at htab (by simp)
  have hRW := hR.kp hK (by simp)
  obtain ⟨⟨mc, om⟩, _⟩ := hR.old
  have lmb := lt_of om
  have lB : mb < B := by omega
  have lBw : w.heap.size ≤ B := by omega
  have hAW : After 22 #[P (B + 1 + 1 + 1 + 1), P (B + 1)] (fromP q at_) mb sh W := by
    refine ⟨enter22, fun w' h _ x => ?_⟩
    exact placeAfter (B + 1 + 1 + 1 + 1) (B + 1) (B + 1 + 1) q pk x at_ w' (h.at x4 (by simp; omega)) (h.at x1 (by simp; omega)) (h.at x2 (by simp; omega))
  have c0 : W.cell? ⟨B, 0, none⟩ = some (.int .u64 a) := by rw [cell_of x0]; rfl
  have c1 : W.cell? ⟨B, 1, none⟩ = some (.int .u8 b) := by rw [cell_of x0]; rfl
  have c2 : W.cell? ⟨B, 2, none⟩ = some (.int .u64 c) := by rw [cell_of x0]; rfl
  have c3 : W.cell? ⟨B + 1, 0, none⟩ = some (.int .i64 0) := by rw [cell_of x1]; rfl
  have X3 : Hid (W.heap[B + 1 + 1 + 1]? = some (.cells WZ 40)) := x3
  have hW' : Hid (W = ((((((w.alloc (.cells (VwC a b c) 31)).alloc (.cells (PlC q pk) 47)).alloc (.cells #[.bool at_] 4)).alloc (.cells WZ 40)).alloc (.cells #[.func (.func 20) #[] #[P (B + 1 + 1)]] 72)).alloc (.cells #[.int .u8 1, .int .i64 q, .string ⟨#[]⟩, .int .u8 1, .int .i64 pk, .string ⟨#[]⟩] 74))) := hW
  have hB' : Hid (B = w.heap.size) := hB
  have hC := fun sec => walkF N tb mb sh a b c L 22 #[P (B + 1 + 1 + 1 + 1), P (B + 1)] (fromP q at_) sec W hRW hAW hs (fromP_mono q at_) t0
  clear hW hB
  go_enter Yba.func9, Yba.ntmps9
  go_upto_region 3 with fail
  rw [← hB'.out]
  have hW2 := hW'.out
  rw [← hW2]
  clear hW2 hW' hB'
  clear x0 x1 x2 x4 t0 hRW hAW
  go_wp2_with fail
  refine (hC _).mono ?_
  rintro e w1 ⟨l, i, rfl, hPos, k1, hR1⟩
  have y3 := k1.at X3.out (by simp; omega)
  have Y3 : Hid (w1.heap[B + 1 + 1 + 1]? = some (.cells WZ 40)) := y3
  have FIN : Hid (∀ W5, Kp [B + 1 + 1 + 1] w1 W5 → Pos (fromP q at_) L l i ∧ Kp [mb] w W5 ∧ Rep N W5 mb sh L) := fun W5 k5 => ⟨hPos, (hK.any.trans k1).new k5 (by simp; omega), hR1.kp k5 (by simp; exact ⟨_, _, y3, by decide, by decide, by decide, by decide, by decide⟩)⟩
  clear hC hPos k1 hR1 y3 X3 x3 c0 c1 c2 c3 hK
  go_wp2_with (refine wpList_store_whole rfl 40 (.tmp 10) (.tmp 26) rfl (B + 1 + 1 + 1) (WC tb mb a b c false l i sh) rfl rfl 40 WZ Y3.out info40 rfl (by simp [Value.oneCell']) ?_; intro W5 z5 k5)
  exact ⟨rfl, _, results_cell_row Yba.results9 _ W5 (B + 1 + 1 + 1) 40 (WC tb mb a b c false l i sh) (0, 0) _ rfl z5.out Yba.underlying40 rfl info40, l, i, rfl, FIN.out W5 k5.out⟩
set_option maxRecDepth 20000 in
set_option maxHeartbeats 3200000 in
theorem fromB (N tb mb : Nat) (sh a b c q pk : Int) (at_ : Bool) (L : List Leaf) (w : World) (hR : Rep N w mb sh L) (hs : Srt L) (htab : w.heap[tb]? = some (.cells (TC mb) 56)) :
    Calls Yba.prog 9 #[P tb, .agg (VwC a b c), .agg (PlC q pk), .bool at_, .bool true] w fun e w' => ∃ (l i : Nat) (l' i' : Int), e = .returned (.agg (WC tb mb a b c true l' i' sh)) ∧ Pos (fromP q at_) L l i ∧ PrevOf L l i l' i' ∧ Kp [mb] w w' ∧ Rep N w' mb sh L := by
  obtain ⟨B, hB⟩ : ∃ B, B = w.heap.size := ⟨_, rfl⟩
  obtain ⟨W, hW⟩ : ∃ W, W = ((((((w.alloc (.cells (VwC a b c) 31)).alloc (.cells (PlC q pk) 47)).alloc (.cells #[.bool at_] 4)).alloc (.cells WZ 40)).alloc (.cells #[.func (.func 20) #[] #[P (B + 1 + 1)]] 72)).alloc (.cells #[.int .u8 1, .int .i64 q, .string ⟨#[]⟩, .int .u8 1, .int .i64 pk, .string ⟨#[]⟩] 74)) := ⟨_, rfl⟩
  have hK : Kp [] w W := by rw [hW]; exact ((((((Kp.refl _ _).alloc _).alloc _).alloc _).alloc _).alloc _).alloc _
  have x0 : W.heap[B]? = some (.cells (VwC a b c) 31) := by rw [hW]; exact ((((((Kp.refl [] _).alloc _).alloc _).alloc _).alloc _).alloc _).at (heap_alloc_at _ _ hB) (by simp)
  have x1 : W.heap[B + 1]? = some (.cells (PlC q pk) 47) := by rw [hW]; exact (((((Kp.refl [] _).alloc _).alloc _).alloc _).alloc _).at (heap_alloc_at _ _ (by simp [hB])) (by simp)
  have x2 : W.heap[B + 1 + 1]? = some (.cells #[.bool at_] 4) := by rw [hW]; exact ((((Kp.refl [] _).alloc _).alloc _).alloc _).at (heap_alloc_at _ _ (by simp [hB])) (by simp)
  have x3 : W.heap[B + 1 + 1 + 1]? = some (.cells WZ 40) := by rw [hW]; exact (((Kp.refl [] _).alloc _).alloc _).at (heap_alloc_at _ _ (by simp [hB])) (by simp)
  have x4 : W.heap[B + 1 + 1 + 1 + 1]? = some (.cells #[.func (.func 20) #[] #[P (B + 1 + 1)]] 72) := by rw [hW]; exact ((Kp.refl [] _).alloc _).at (heap_alloc_at _ _ (by simp [hB])) (by simp)
  have t0 := hK.at htab (by simp)
  have hRW := hR.kp hK (by simp)
  obtain ⟨⟨mc, om⟩, _⟩ := hR.old
  have lmb := lt_of om
  have lB : mb < B := by omega
  have lBw : w.heap.size ≤ B := by omega
  have hAW : After 22 #[P (B + 1 + 1 + 1 + 1), P (B + 1)] (fromP q at_) mb sh W := by
    refine ⟨enter22, fun w' h _ x => ?_⟩
    exact placeAfter (B + 1 + 1 + 1 + 1) (B + 1) (B + 1 + 1) q pk x at_ w' (h.at x4 (by simp; omega)) (h.at x1 (by simp; omega)) (h.at x2 (by simp; omega))
  have c0 : W.cell? ⟨B, 0, none⟩ = some (.int .u64 a) := by rw [cell_of x0]; rfl
  have c1 : W.cell? ⟨B, 1, none⟩ = some (.int .u8 b) := by rw [cell_of x0]; rfl
  have c2 : W.cell? ⟨B, 2, none⟩ = some (.int .u64 c) := by rw [cell_of x0]; rfl
  have c3 : W.cell? ⟨B + 1, 0, none⟩ = some (.int .i64 0) := by rw [cell_of x1]; rfl
  have X3 : Hid (W.heap[B + 1 + 1 + 1]? = some (.cells WZ 40)) := x3
  have hW' : Hid (W = ((((((w.alloc (.cells (VwC a b c) 31)).alloc (.cells (PlC q pk) 47)).alloc (.cells #[.bool at_] 4)).alloc (.cells WZ 40)).alloc (.cells #[.func (.func 20) #[] #[P (B + 1 + 1)]] 72)).alloc (.cells #[.int .u8 1, .int .i64 q, .string ⟨#[]⟩, .int .u8 1, .int .i64 pk, .string ⟨#[]⟩] 74))) := hW
  have hB' : Hid (B = w.heap.size) := hB
  have hC := fun sec => walkB N tb mb sh a b c L 22 #[P (B + 1 + 1 + 1 + 1), P (B + 1)] (fromP q at_) sec W hRW hAW hs (fromP_mono q at_) t0
  clear hW hB
  go_enter Yba.func9, Yba.ntmps9
  go_upto_region 3 with fail
  rw [← hB'.out]
  have hW2 := hW'.out
  rw [← hW2]
  clear hW2 hW' hB'
  clear x0 x1 x2 x4 t0 hRW hAW
  go_wp2_with fail
  refine (hC _).mono ?_
  rintro e w1 ⟨l, i, l', i', rfl, hPos, hPr, k1, hR1⟩
  have y3 := k1.at X3.out (by simp; omega)
  have Y3 : Hid (w1.heap[B + 1 + 1 + 1]? = some (.cells WZ 40)) := y3
  have FIN : Hid (∀ W5, Kp [B + 1 + 1 + 1] w1 W5 → Pos (fromP q at_) L l i ∧ PrevOf L l i l' i' ∧ Kp [mb] w W5 ∧ Rep N W5 mb sh L) := fun W5 k5 => ⟨hPos, hPr, (hK.any.trans k1).new k5 (by simp; omega), hR1.kp k5 (by simp; exact ⟨_, _, y3, by decide, by decide, by decide, by decide, by decide⟩)⟩
  clear hC hPos hPr k1 hR1 y3 X3 x3 c0 c1 c2 c3 hK
  go_wp2_with (refine wpList_store_whole rfl 40 (.tmp 10) (.tmp 26) rfl (B + 1 + 1 + 1) (WC tb mb a b c true l' i' sh) rfl rfl 40 WZ Y3.out info40 rfl (by simp [Value.oneCell']) ?_; intro W5 z5 k5)
  exact ⟨rfl, _, results_cell_row Yba.results9 _ W5 (B + 1 + 1 + 1) 40 (WC tb mb a b c true l' i' sh) (0, 0) _ rfl z5.out Yba.underlying40 rfl info40, l, i, l', i', rfl, FIN.out W5 k5.out⟩
end Go.Proofs.Ybulkcnom
