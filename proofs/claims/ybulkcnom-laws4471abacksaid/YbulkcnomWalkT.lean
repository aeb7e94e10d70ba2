/-
  Seat b4471a, Forward and Back: walk.
-/
import Derived.Test.YbulkcnomBuild
namespace Go.Proofs.Ybulkcnom
open Go.RowKit
attribute [local go_sem ↓] Go.wp_at_zero Go.wp_at_succ
/-- A View's cells; a Walk's. -/
abbrev VwC (a b c : Int) : Array Value := #[.int .u64 a, .int .u8 b, .int .u64 c]
abbrev WC (tb mb : Nat) (a b c : Int) (back : Bool) (l i sh : Int) : Array Value := #[P tb, .int .u64 a, .int .u8 b, .int .u64 c, .int .i64 0, .bool back, P mb, .int .i64 l, .int .i64 i, .int .u64 sh, .pointer none, .int .i64 0, .int .i64 0, .int .u64 0]
abbrev WZ : Array Value := #[.pointer none, .int .u64 0, .int .u8 0, .int .u64 0, .int .i64 0, .bool false, .pointer none, .int .i64 0, .int .i64 0, .int .u64 0, .pointer none, .int .i64 0, .int .i64 0, .int .u64 0]
abbrev W0 (tb : Nat) (a b c : Int) (back : Bool) : Array Value := #[P tb, .int .u64 a, .int .u8 b, .int .u64 c, .int .i64 0, .bool back, .pointer none, .int .i64 0, .int .i64 0, .int .u64 0, .pointer none, .int .i64 0, .int .i64 0, .int .u64 0]
theorem info40 : (Yba.prog.info? 40).map (·.size) = some 14 := by kernel_rfl
theorem wpList_store_whole {P : Program} {w : World} {ops : Array Oper} {rest : List Oper} {o : Oper} {a : Act} {Q : Exit → Act → World → Prop} (hgd : o.guard = none) (ty : TypeId) (x y : Operand) (ho : o.op = .store ty x y)
    (g : Nat) (cs : Array Value) (hx : a.eval x = .pointer (some ⟨g, 0, none⟩)) (hy : a.eval y = .agg cs) (t : TypeId) (old : Array Value) (hg : w.heap[g]? = some (.cells old t)) (hi : (P.info? ty).map (·.size) = some cs.size)
    (hold : old.size = cs.size) (h1 : cs.all (·.oneCell') = true) (h : ∀ w', Hid (w'.heap[g]? = some (.cells cs t)) → Hid (Kp [g] w w') → wpList P ops Q rest (a.put o.dst undef) w') : wpList P ops Q (o :: rest) a w :=
  wpList_plain hgd fun _ hK => wp_store_row ty x y ho g cs hx hy t old hg hi hold h1 (hK _ _ (h _ (show _ = _ from setRow_heap w g _ _ t _ hg) ⟨rfl, rfl, rfl, by simp [World.setRow], fun k _ hm => setRow_other w g k _ (by simpa using hm)⟩))
set_option maxRecDepth 20000 in
set_option maxHeartbeats 3200000 in
theorem walkF (N tb mb : Nat) (sh a b c : Int) (L : List Leaf) (fn : Nat) (caps : Array Value) (p : Int → Bool) (sec : Value) (w : World) (hR : Rep N w mb sh L) (hA : After fn caps p mb sh w) (hs : Srt L) (hp : ∀ x y, x ≤ y → p x = true → p y = true) (htab : w.heap[tb]? = some (.cells (TC mb) 56)) :
    Calls Yba.prog 21 #[P tb, .agg (VwC a b c), .int .i64 0, .func (.func fn) #[] caps, sec, .bool false] w fun e w' => ∃ l i : Nat, e = .returned (.agg (WC tb mb a b c false l i sh)) ∧ Pos p L l i ∧ Kp [mb] w w' ∧ Rep N w' mb sh L := by
  obtain ⟨B, hB⟩ : ∃ B, B = w.heap.size := ⟨_, rfl⟩
  obtain ⟨W, hW⟩ : ∃ W, W = (((w.alloc (.cells (VwC a b c) 31)).alloc (.cells WZ 40)).alloc (.cells (W0 tb a b c false) 40)) := ⟨_, rfl⟩
  have hK : Kp [] w W := by rw [hW]; exact (((Kp.refl _ _).alloc _).alloc _).alloc _
  have x1 : W.heap[B + 1]? = some (.cells WZ 40) := by rw [hW, hB]; exact ((Kp.refl [] _).alloc _).at (heap_alloc_at _ _ (by simp)) (by simp)
  have x2 : W.heap[B + 2]? = some (.cells (W0 tb a b c false) 40) := by rw [hW, hB]; exact heap_alloc_at _ _ (by simp)
  have t0 := hK.at htab (by simp)
  have hRW := hR.kp hK (by simp)
  have hAW : After fn caps p mb sh W := ⟨hA.1, fun w' h h2 x => hA.2 w' (hK.any.trans h) h2 x⟩
  have hC := seek N mb sh L fn caps p W hRW hAW hs hp
  have c2 : W.cell? ⟨tb, 2, none⟩ = some (P mb) := by rw [cell_of t0]; rfl
  have hrun := hA.1
  obtain ⟨⟨mc, om⟩, _⟩ := hR.old
  have lmb := lt_of om
  go_enter Yba.func21, Yba.ntmps21
  go_upto_region 3 with fail
  rw [← hW, ← hB]
  have lB : mb < B := by omega
  have lBw : w.heap.size ≤ B := by omega
  clear hW hB
  go_wp2_with fail
  refine hC.mono ?_
  rintro e w1 ⟨l, i, rfl, hPos, k1, hR1⟩
  have z1 : w1.heap[B + 1 + 1]? = _ := k1.at x2 (by simp; omega)
  have y1 := k1.at x1 (by simp; omega)
  have f6 : ∀ o, w1.frozen? ⟨B + 1 + 1, o, none⟩ = false := fun o => frozen_of z1
  have e6 : w1.cell? ⟨B + 1 + 1, 6, none⟩ = some (.pointer none) := by rw [cell_of z1]; rfl
  have e7 : w1.cell? ⟨B + 1 + 1, 7, none⟩ = some (.int .i64 0) := by rw [cell_of z1]; rfl
  have e8 : w1.cell? ⟨B + 1 + 1, 8, none⟩ = some (.int .i64 0) := by rw [cell_of z1]; rfl
  have e9 : w1.cell? ⟨B + 1 + 1, 9, none⟩ = some (.int .u64 0) := by rw [cell_of z1]; rfl
  obtain ⟨W4, hW4⟩ : ∃ W4, W4 = (((w1.setCell ⟨B + 1 + 1, 6, none⟩ (P mb)).setCell ⟨B + 1 + 1, 7, none⟩ (.int .i64 l)).setCell ⟨B + 1 + 1, 8, none⟩ (.int .i64 i)).setCell ⟨B + 1 + 1, 9, none⟩ (.int .u64 sh) := ⟨_, rfl⟩
  have z4 : W4.heap[B + 1 + 1]? = some (.cells (WC tb mb a b c false l i sh) 40) := by rw [hW4]; exact heap_setCell_same' _ (heap_setCell_same' _ (heap_setCell_same' _ (heap_setCell_same' _ z1)))
  have k4 : Kp [B + 1 + 1] w1 W4 := by rw [hW4]; exact ((((Kp.refl _ _).setCell (by simp) _).setCell (by simp) _).setCell (by simp) _).setCell (by simp) _
  have y4 : W4.heap[B + 1]? = some (.cells WZ 40) := k4.at y1 (by simp)
  go_upto_region 9 with fail
  rw [← hW4]
  clear hW4 e6 e7 e8 e9 f6 y1 hC hRW hAW x1 x2 t0 c2
  have Z4 : Hid (W4.heap[B + 1 + 1]? = some (.cells (WC tb mb a b c false l i sh) 40)) := z4
  have Y4 : Hid (W4.heap[B + 1]? = some (.cells WZ 40)) := y4
  have FIN : Hid (∀ W5, Kp [B + 1] W4 W5 → Pos p L l i ∧ Kp [mb] w W5 ∧ Rep N W5 mb sh L) := fun W5 k5 =>
    ⟨hPos, ((hK.any.trans k1).new k4 (by simp; omega)).new k5 (by simp; omega), (hR1.kp k4 (by simp; exact ⟨_, _, z1, by decide, by decide, by decide, by decide, by decide⟩)).kp k5 (by simp; exact ⟨_, _, y4, by decide, by decide, by decide, by decide, by decide⟩)⟩
  clear z4 y4 z1 k4 k1 hR1 hPos hR hs hp hA
  go_wp2_with (first | (refine wpList_load_row rfl 40 (.tmp 13) rfl (B + 1 + 1) rfl 40 (WC tb mb a b c false l i sh) (0, 0) _ Z4.out Yba.underlying40 rfl info40 ?_) | (refine wpList_store_whole rfl 40 (.tmp 12) (.tmp 46) rfl (B + 1) (WC tb mb a b c false l i sh) rfl rfl 40 WZ Y4.out info40 rfl (by simp [Value.oneCell']) ?_; intro W5 z5 k5))
  exact ⟨rfl, _, results_cell_row Yba.results21 _ W5 (B + 1) 40 (WC tb mb a b c false l i sh) (0, 0) _ rfl z5.out Yba.underlying40 rfl info40, l, i, rfl, FIN.out W5 k5.out⟩
/-- Where Prev takes a cursor. -/
def PrevOf (L : List Leaf) (l i : Nat) (l' i' : Int) : Prop :=
  (0 < i ∧ l' = l ∧ i' = (i : Int) - 1) ∨ (i = 0 ∧ 0 < l ∧ ∃ h : l - 1 < L.length, l' = ((l - 1 : Nat) : Int) ∧ i' = (L[l - 1].ks.length : Int) - 1) ∨ (i = 0 ∧ l = 0 ∧ l' = -1 ∧ i' = 0)
theorem Rep.few {N mb : Nat} {sh : Int} {L : List Leaf} {w : World} (h : Rep N w mb sh L) : ∀ x ∈ L, x.ks.length ≤ 128 := by
  obtain ⟨lv, near, _, _, hL⟩ := h.has
  exact fun x hx => (hL.leaf x hx).few
theorem prevW (N bb mb tb l i : Nat) (a b c sh : Int) (back : Bool) (L : List Leaf) (w : World) (hR : Rep N w mb sh L) (hb : w.heap[bb]? = some (.cells (WC tb mb a b c back l i sh) 40)) (h1 : l ≤ L.length) (h2 : ∀ h : l < L.length, i < L[l].ks.length) (h3 : l = L.length → i = 0) :
    Calls Yba.prog 12 #[.pointer (some ⟨bb, 6, none⟩)] w fun e w' => e = .returned (.tuple #[]) ∧ Kp [bb] w w' ∧ ∃ l' i' : Int, PrevOf L l i l' i' ∧ w'.heap[bb]? = some (.cells (WC tb mb a b c back l' i' sh) 40) := by
  by_cases hi : 0 < i
  · have hl : l < L.length := by
      rcases Nat.lt_or_ge l L.length with h | h
      · exact h
      · have := h3 (by omega); omega
    have hf := hR.few _ (List.getElem_mem hl)
    have hi2 := h2 hl
    refine (prev_in bb 6 (i - 1) _ 40 w hb (by show some (Value.int .i64 (i : Int)) = _; rw [show ((i - 1 : Nat) : Int) + 1 = i by omega]) (by omega)).mono ?_
    rintro e w' ⟨rfl, k, z⟩
    exact ⟨rfl, k, l, (i : Int) - 1, .inl ⟨hi, rfl, rfl⟩, by rw [z, show ((i - 1 : Nat) : Int) = (i : Int) - 1 by omega]; rfl⟩
  · obtain rfl : i = 0 := by omega
    by_cases hl : 0 < l
    · have hl' : l - 1 < L.length := by omega
      refine (prev_over N bb 6 mb (l - 1) sh L _ 40 w hR hl' hb (by decide) rfl (by show some (Value.int .i64 (l : Int)) = _; rw [show ((l - 1 : Nat) : Int) + 1 = l by omega]) rfl).mono ?_
      rintro e w' ⟨rfl, k, z⟩
      exact ⟨rfl, k, ((l - 1 : Nat) : Int), _, .inr (.inl ⟨rfl, hl, hl', rfl, rfl⟩), by rw [z]; rfl⟩
    · obtain rfl : l = 0 := by omega
      refine (prev_first bb 6 _ 40 w hb rfl rfl).mono ?_
      rintro e w' ⟨rfl, k, z⟩
      exact ⟨rfl, k, -1, 0, .inr (.inr ⟨rfl, rfl, rfl, rfl⟩), by rw [z]; rfl⟩
theorem prevC (N bb mb l i : Nat) (sh : Int) (L : List Leaf) (w : World) (hR : Rep N w mb sh L) (hb : w.heap[bb]? = some (.cells (CC mb l i sh) 35)) (h1 : l ≤ L.length) (h2 : ∀ h : l < L.length, i < L[l].ks.length) (h3 : l = L.length → i = 0) :
    Calls Yba.prog 12 #[.pointer (some ⟨bb, 0, none⟩)] w fun e w' => e = .returned (.tuple #[]) ∧ Kp [bb] w w' ∧ ∃ l' i' : Int, PrevOf L l i l' i' ∧ w'.heap[bb]? = some (.cells (CC mb l' i' sh) 35) := by
  by_cases hi : 0 < i
  · have hl : l < L.length := by
      rcases Nat.lt_or_ge l L.length with h | h
      · exact h
      · have := h3 (by omega); omega
    have hf := hR.few _ (List.getElem_mem hl)
    have hi2 := h2 hl
    refine (prev_in bb 0 (i - 1) _ 35 w hb (by show some (Value.int .i64 (i : Int)) = _; rw [show ((i - 1 : Nat) : Int) + 1 = i by omega]) (by omega)).mono ?_
    rintro e w' ⟨rfl, k, z⟩
    exact ⟨rfl, k, l, (i : Int) - 1, .inl ⟨hi, rfl, rfl⟩, by rw [z, show ((i - 1 : Nat) : Int) = (i : Int) - 1 by omega]; rfl⟩
  · obtain rfl : i = 0 := by omega
    by_cases hl : 0 < l
    · have hl' : l - 1 < L.length := by omega
      refine (prev_over N bb 0 mb (l - 1) sh L _ 35 w hR hl' hb (by decide) rfl (by show some (Value.int .i64 (l : Int)) = _; rw [show ((l - 1 : Nat) : Int) + 1 = l by omega]) rfl).mono ?_
      rintro e w' ⟨rfl, k, z⟩
      exact ⟨rfl, k, ((l - 1 : Nat) : Int), _, .inr (.inl ⟨rfl, hl, hl', rfl, rfl⟩), by rw [z]; rfl⟩
    · obtain rfl : l = 0 := by omega
      refine (prev_first bb 0 _ 35 w hb rfl rfl).mono ?_
      rintro e w' ⟨rfl, k, z⟩
      exact ⟨rfl, k, -1, 0, .inr (.inr ⟨rfl, rfl, rfl, rfl⟩), by rw [z]; rfl⟩
theorem Pos.ok {p : Int → Bool} {L : List Leaf} {l i : Nat} (h : Pos p L l i) : l ≤ L.length ∧ (∀ h : l < L.length, i < L[l].ks.length) ∧ (l = L.length → i = 0) := ⟨h.le, fun hl => (h.here hl).1, h.out⟩
set_option maxRecDepth 20000 in
set_option maxHeartbeats 3200000 in
theorem walkB (N tb mb : Nat) (sh a b c : Int) (L : List Leaf) (fn : Nat) (caps : Array Value) (p : Int → Bool) (sec : Value) (w : World) (hR : Rep N w mb sh L) (hA : After fn caps p mb sh w) (hs : Srt L) (hp : ∀ x y, x ≤ y → p x = true → p y = true) (htab : w.heap[tb]? = some (.cells (TC mb) 56)) :
    Calls Yba.prog 21 #[P tb, .agg (VwC a b c), .int .i64 0, .func (.func fn) #[] caps, sec, .bool true] w fun e w' => ∃ (l i : Nat) (l' i' : Int), e = .returned (.agg (WC tb mb a b c true l' i' sh)) ∧ Pos p L l i ∧ PrevOf L l i l' i' ∧ Kp [mb] w w' ∧ Rep N w' mb sh L := by
  obtain ⟨B, hB⟩ : ∃ B, B = w.heap.size := ⟨_, rfl⟩
  obtain ⟨W, hW⟩ : ∃ W, W = (((w.alloc (.cells (VwC a b c) 31)).alloc (.cells WZ 40)).alloc (.cells (W0 tb a b c true) 40)) := ⟨_, rfl⟩
  have hK : Kp [] w W := by rw [hW]; exact (((Kp.refl _ _).alloc _).alloc _).alloc _
  have x1 : W.heap[B + 1]? = some (.cells WZ 40) := by rw [hW, hB]; exact ((Kp.refl [] _).alloc _).at (heap_alloc_at _ _ (by simp)) (by simp)
  have x2 : W.heap[B + 2]? = some (.cells (W0 tb a b c true) 40) := by rw [hW, hB]; exact heap_alloc_at _ _ (by simp)
  have t0 := hK.at htab (by simp)
  have hRW := hR.kp hK (by simp)
  have hAW : After fn caps p mb sh W := ⟨hA.1, fun w' h h2 x => hA.2 w' (hK.any.trans h) h2 x⟩
  have hC := seek N mb sh L fn caps p W hRW hAW hs hp
  have c2 : W.cell? ⟨tb, 2, none⟩ = some (P mb) := by rw [cell_of t0]; rfl
  have hrun := hA.1
  obtain ⟨⟨mc, om⟩, _⟩ := hR.old
  have lmb := lt_of om
  go_enter Yba.func21, Yba.ntmps21
  go_upto_region 3 with fail
  rw [← hW, ← hB]
  have lB : mb < B := by omega
  have lBw : w.heap.size ≤ B := by omega
  clear hW hB
  go_wp2_with fail
  refine hC.mono ?_
  rintro e w1 ⟨l, i, rfl, hPos, k1, hR1⟩
  have z1 : w1.heap[B + 1 + 1]? = _ := k1.at x2 (by simp; omega)
  have y1 := k1.at x1 (by simp; omega)
  have f6 : ∀ o, w1.frozen? ⟨B + 1 + 1, o, none⟩ = false := fun o => frozen_of z1
  have e6 : w1.cell? ⟨B + 1 + 1, 6, none⟩ = some (.pointer none) := by rw [cell_of z1]; rfl
  have e7 : w1.cell? ⟨B + 1 + 1, 7, none⟩ = some (.int .i64 0) := by rw [cell_of z1]; rfl
  have e8 : w1.cell? ⟨B + 1 + 1, 8, none⟩ = some (.int .i64 0) := by rw [cell_of z1]; rfl
  have e9 : w1.cell? ⟨B + 1 + 1, 9, none⟩ = some (.int .u64 0) := by rw [cell_of z1]; rfl
  obtain ⟨W4, hW4⟩ : ∃ W4, W4 = (((w1.setCell ⟨B + 1 + 1, 6, none⟩ (P mb)).setCell ⟨B + 1 + 1, 7, none⟩ (.int .i64 l)).setCell ⟨B + 1 + 1, 8, none⟩ (.int .i64 i)).setCell ⟨B + 1 + 1, 9, none⟩ (.int .u64 sh) := ⟨_, rfl⟩
  have z4 : W4.heap[B + 1 + 1]? = some (.cells (WC tb mb a b c true l i sh) 40) := by rw [hW4]; exact heap_setCell_same' _ (heap_setCell_same' _ (heap_setCell_same' _ (heap_setCell_same' _ z1)))
  have k4 : Kp [B + 1 + 1] w1 W4 := by rw [hW4]; exact ((((Kp.refl _ _).setCell (by simp) _).setCell (by simp) _).setCell (by simp) _).setCell (by simp) _
  have y4 : W4.heap[B + 1]? = some (.cells WZ 40) := k4.at y1 (by simp)
  obtain ⟨o1, o2, o3⟩ := hPos.ok
  have hR4 : Rep N W4 mb sh L := hR1.kp k4 (by simp; exact ⟨_, _, z1, by decide, by decide, by decide, by decide, by decide⟩)
  have hPv := prevW N (B + 1 + 1) mb tb l i a b c sh true L W4 hR4 z4 o1 o2 o3
  go_upto_region 5 with fail
  rw [← hW4]
  clear hW4 e6 e7 e8 e9 f6 y1 hC hRW hAW x1 x2 t0 c2
  have Y4 : Hid (W4.heap[B + 1]? = some (.cells WZ 40)) := y4
  have FIN : Hid (∀ W6 W5, Kp [B + 1 + 1] W4 W6 → Kp [B + 1] W6 W5 → Pos p L l i ∧ Kp [mb] w W5 ∧ Rep N W5 mb sh L) := fun W6 W5 k6 k5 => by
    have z6 : ∃ c, W6.heap[B + 1]? = some (.cells c 40) := ⟨_, k6.at y4 (by simp)⟩
    obtain ⟨c6, z6⟩ := z6
    exact ⟨hPos, (((hK.any.trans k1).new k4 (by simp; omega)).new k6 (by simp; omega)).new k5 (by simp; omega), (hR4.kp k6 (by simp; exact ⟨_, _, z4, by decide, by decide, by decide, by decide, by decide⟩)).kp k5 (by simp; exact ⟨_, _, z6, by decide, by decide, by decide, by decide, by decide⟩)⟩
  clear z4 y4 z1 k4 k1 hR1 hPos hR hs hp hA hR4 o1 o2 o3
  go_wp2_with fail
  refine hPv.mono ?_
  rintro e W6 ⟨rfl, k6, l', i', hPr, z6⟩
  have Z6 : Hid (W6.heap[B + 1 + 1]? = some (.cells (WC tb mb a b c true l' i' sh) 40)) := z6
  have Y6 : Hid (W6.heap[B + 1]? = some (.cells WZ 40)) := k6.at Y4.out (by simp)
  have F6 : Hid (∀ W5, Kp [B + 1] W6 W5 → Pos p L l i ∧ Kp [mb] w W5 ∧ Rep N W5 mb sh L) := fun W5 k5 => FIN.out W6 W5 k6 k5
  have HPr : Hid (PrevOf L l i l' i') := hPr
  clear z6 k6 FIN Y4 hPr hPv
  go_wp2_with (first | (refine wpList_load_row rfl 40 (.tmp 13) rfl (B + 1 + 1) rfl 40 (WC tb mb a b c true l' i' sh) (0, 0) _ Z6.out Yba.underlying40 rfl info40 ?_) | (refine wpList_store_whole rfl 40 (.tmp 12) (.tmp 46) rfl (B + 1) (WC tb mb a b c true l' i' sh) rfl rfl 40 WZ Y6.out info40 rfl (by simp [Value.oneCell']) ?_; intro W5 z5 k5))
  obtain ⟨f1, f2, f3⟩ := F6.out W5 k5.out
  exact ⟨rfl, _, results_cell_row Yba.results21 _ W5 (B + 1) 40 (WC tb mb a b c true l' i' sh) (0, 0) _ rfl z5.out Yba.underlying40 rfl info40, l, i, l', i', rfl, f1, HPr.out, f2, f3⟩
end Go.Proofs.Ybulkcnom
