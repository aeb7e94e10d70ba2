/-
  Seat b4471a, Forward and Back: Valid, Key, Value, Prev.
-/
import Derived.Test.YbulkcnomSeek
namespace Go.Proofs.Ybulkcnom
open Go.RowKit
attribute [local go_sem ↓] Go.wp_at_zero Go.wp_at_succ
theorem Kp.drewN {S : List Nat} {a w : World} (h : Kp S a w) (n : Nat) : Kp S a (w.drewN n) := ⟨h.os, h.tape, h.output, h.size, h.block⟩
theorem Rep.slice {N mb : Nat} {sh : Int} {L : List Leaf} {w : World} (h : Rep N w mb sh L) : ∃ ao cap, w.cell? ⟨mb, 1, none⟩ = some (.slice ao L.length cap) := by
  obtain ⟨lv, near, hm, hn, hL⟩ := h.has
  rcases hL.row.2 with ⟨rfl, h0⟩ | ⟨g, cap, cur, rfl, _⟩
  · exact ⟨none, 0, by rw [cell_of hm, h0]; rfl⟩
  · exact ⟨_, _, by rw [cell_of hm]; rfl⟩
set_option maxHeartbeats 800000 in
theorem valid (N mb l i : Nat) (sh sh' : Int) (L : List Leaf) (w : World) (hR : Rep N w mb sh' L) :
    Calls Yba.prog 45 #[.agg (CC mb l i sh)] w fun e w' => e = .returned (.bool (decide (l < L.length))) ∧ Kp [] w w' := by
  obtain ⟨W, hW⟩ : ∃ W, W = w.alloc (.cells (CC mb l i sh) 35) := ⟨_, rfl⟩
  obtain ⟨B, hB⟩ : ∃ B, B = w.heap.size := ⟨_, rfl⟩
  have hK : Kp [] w W := by rw [hW]; exact (Kp.refl _ _).alloc _
  have hx : W.heap[B]? = some (.cells (CC mb l i sh) 35) := by rw [hW, hB]; exact heap_alloc_same _ _
  have hRW := hR.kp hK (by simp)
  obtain ⟨ao, cap, c0⟩ := hRW.slice
  obtain ⟨lv, near, hm, hn, hL⟩ := hRW.has
  have few := hL.few
  have hl0 : decide ((0 : Int) ≤ (l : Int)) = true := by simp
  obtain ⟨n, hn⟩ : ∃ n, n = L.length := ⟨_, rfl⟩
  rw [← hn] at few c0 ⊢
  have b0 : W.cell? ⟨B, 0, none⟩ = some (P mb) := by rw [cell_of hx]; rfl
  have b1 : W.cell? ⟨B, 1, none⟩ = some (.int .i64 l) := by rw [cell_of hx]; rfl
  clear hL hm hRW hR hx hn
  go_enter Yba.func45, Yba.ntmps45
  go_wp2_with fail
  rw [← hW, ← hB]
  clear hW hB
  go_quiet (fail)
  go_wp2
  go_ret
  exact ⟨rfl, hK.drewN _⟩
/-- Where the entry (l, i) lies. -/
theorem Rep.entry {N mb : Nat} {sh : Int} {L : List Leaf} {w : World} (h : Rep N w mb sh L) (l i : Nat) (hl : l < L.length) (hi : i < L[l].ks.length) : ∃ lb lc, w.cell? ⟨mb, 1, none⟩ = some (.slice (some ⟨lb, 0, none⟩) L.length lc) ∧ L.length ≤ lc ∧ lc ≤ maxLen ∧
    w.cell? ⟨lb, l, none⟩ = some (P L[l].b) ∧ w.cell? ⟨L[l].b, 0, none⟩ = some (.slice (some ⟨L[l].kb, 0, none⟩) L[l].ks.length L[l].kc) ∧ w.cell? ⟨L[l].b, 1, none⟩ = some (.slice (some ⟨L[l].vb, 0, none⟩) L[l].ks.length L[l].vc) ∧
    w.cell? ⟨L[l].kb, i * 3, none⟩ = some (.int .u8 1) ∧ w.cell? ⟨L[l].kb, i * 3 + 1, none⟩ = some (.int .i64 L[l].ks[i]) ∧ w.cell? ⟨L[l].kb, i * 3 + 2, none⟩ = some (.string ⟨#[]⟩) ∧ L.length ≤ 300 ∧ L[l].ks.length ≤ 128 := by
  obtain ⟨lv, near, hm, hn, hL⟩ := h.has
  obtain ⟨lb, lc, rfl, h1, h2, _, _, h3⟩ := hL.cell (by omega)
  have lok := hL.leaf L[l] (List.getElem_mem hl)
  refine ⟨lb, lc, by rw [cell_of hm]; rfl, h1, h2, h3 l _ (List.getElem?_eq_getElem hl), by rw [cell_of lok.blk]; rfl, by rw [cell_of lok.blk]; rfl, (lok.key' i hi).1, (lok.key' i hi).2.1, (lok.key' i hi).2.2, hL.few, lok.few⟩
set_option maxHeartbeats 1600000 in
theorem key (N mb l i : Nat) (sh sh' : Int) (L : List Leaf) (w : World) (hR : Rep N w mb sh' L) (hl : l < L.length) (hi : i < L[l].ks.length) :
    Calls Yba.prog 11 #[.agg (CC mb l i sh)] w fun e w' => e = .returned (V L[l].ks[i]) ∧ Kp [] w w' := by
  obtain ⟨W, hW⟩ : ∃ W, W = (w.alloc (.cells (CC mb l i sh) 35)).alloc (.cells #[.int .u8 0, .int .i64 0, .string ⟨#[]⟩] 44) := ⟨_, rfl⟩
  obtain ⟨B, hB⟩ : ∃ B, B = w.heap.size := ⟨_, rfl⟩
  have hK : Kp [] w W := by rw [hW]; exact ((Kp.refl _ _).alloc _).alloc _
  have hx : W.heap[B]? = some (.cells (CC mb l i sh) 35) := by rw [hW, hB]; exact ((Kp.refl [] _).alloc _).at (heap_alloc_same _ _) (by simp)
  have hy : W.heap[B + 1]? = some (.cells #[.int .u8 0, .int .i64 0, .string ⟨#[]⟩] 44) := by rw [hW, hB]; exact heap_alloc_at _ _ (by simp)
  obtain ⟨lb, lc, c1, hc1, hc2, c2, c3, _, k1, k2, k3, few, kfew⟩ := hR.entry l i hl hi
  obtain ⟨n, hn⟩ : ∃ n, n = L.length := ⟨_, rfl⟩
  obtain ⟨ll, hll⟩ : ∃ ll, ll = L[l] := ⟨_, rfl⟩
  obtain ⟨x, hx'⟩ : ∃ x, x = L[l].ks[i] := ⟨_, rfl⟩
  obtain ⟨m, hm⟩ : ∃ m, m = L[l].ks.length := ⟨_, rfl⟩
  rw [← hn] at few c1 hc1 hl
  rw [← hm] at kfew hi c3
  rw [← hx'] at k2 ⊢
  rw [← hll] at c2 c3 k1 k2 k3
  have b0 : W.cell? ⟨B, 0, none⟩ = some (P mb) := by rw [cell_of hx]; rfl
  have b1 : W.cell? ⟨B, 1, none⟩ = some (.int .i64 l) := by rw [cell_of hx]; rfl
  have b2 : W.cell? ⟨B, 2, none⟩ = some (.int .i64 i) := by rw [cell_of hx]; rfl
  have e0 : W.cell? ⟨B + 1, 0, none⟩ = some (.int .u8 0) := by rw [cell_of hy]; rfl
  have e1 : W.cell? ⟨B + 1, 1, none⟩ = some (.int .i64 0) := by rw [cell_of hy]; rfl
  have e2 : W.cell? ⟨B + 1, 2, none⟩ = some (.string ⟨#[]⟩) := by rw [cell_of hy]; rfl
  have f : ∀ o, W.frozen? ⟨B + 1, o, none⟩ = false := fun o => frozen_of hy
  have hli : (l : Int) < (n : Int) := by omega
  have hii : (i : Int) < (m : Int) := by omega
  have hBw : w.heap.size ≤ B + 1 := by omega
  have H : ∀ w', Kp [] w w' → Kp [B + 1] W w' → w'.cell? ⟨B, 0, none⟩ = some (P mb) ∧ w'.cell? ⟨B, 1, none⟩ = some (.int .i64 l) ∧ w'.cell? ⟨B, 2, none⟩ = some (.int .i64 i) ∧ w'.cell? ⟨mb, 1, none⟩ = some (.slice (some ⟨lb, 0, none⟩) n lc) ∧
      w'.cell? ⟨lb, l, none⟩ = some (P ll.b) ∧ w'.cell? ⟨ll.b, 0, none⟩ = some (.slice (some ⟨ll.kb, 0, none⟩) m ll.kc) ∧ w'.cell? ⟨ll.kb, i * 3, none⟩ = some (.int .u8 1) ∧ w'.cell? ⟨ll.kb, i * 3 + 1, none⟩ = some (.int .i64 x) ∧ w'.cell? ⟨ll.kb, i * 3 + 2, none⟩ = some (.string ⟨#[]⟩) :=
    fun w' h1 h2 => ⟨h2.cell b0 (by simp), h2.cell b1 (by simp), h2.cell b2 (by simp), h1.cell c1 (by simp), h1.cell c2 (by simp), h1.cell c3 (by simp), h1.cell k1 (by simp), h1.cell k2 (by simp), h1.cell k3 (by simp)⟩
  clear hR hx hn hll hx' hm hy b0 b1 b2 c1 c2 c3 k1 k2 k3
  go_enter Yba.func11, Yba.ntmps11
  go_wp2_with fail
  rw [← hW, ← hB]
  clear hW hB
  go_region_held3 (fun w' => w'.cell? ⟨B, 0, none⟩ = some (P mb) ∧ w'.cell? ⟨B, 1, none⟩ = some (.int .i64 l) ∧ w'.cell? ⟨B, 2, none⟩ = some (.int .i64 i) ∧ w'.cell? ⟨mb, 1, none⟩ = some (.slice (some ⟨lb, 0, none⟩) n lc) ∧
      w'.cell? ⟨lb, l, none⟩ = some (P ll.b) ∧ w'.cell? ⟨ll.b, 0, none⟩ = some (.slice (some ⟨ll.kb, 0, none⟩) m ll.kc) ∧ w'.cell? ⟨ll.kb, i * 3, none⟩ = some (.int .u8 1) ∧ w'.cell? ⟨ll.kb, i * 3 + 1, none⟩ = some (.int .i64 x) ∧ w'.cell? ⟨ll.kb, i * 3 + 2, none⟩ = some (.string ⟨#[]⟩))
    (first | exact H _ hK.drew (Kp.refl _ _).drew | exact H _ (((hK.setCell (.inr hBw) _).setCell (.inr hBw) _).setCell (.inr hBw) _).drew ((((Kp.refl _ _).setCell (by simp) _).setCell (by simp) _).setCell (by simp) _).drew) (fail)
  clear H
  go_wp2
  simp [bodyPost, results, Yba.results11, go_sem, e0, e1, e2]
  exact (((hK.setCell (.inr hBw) _).setCell (.inr hBw) _).setCell (.inr hBw) _).drew
theorem Rep.val {N mb : Nat} {sh : Int} {L : List Leaf} {w : World} (h : Rep N w mb sh L) (l i : Nat) (hl : l < L.length) (hi : i < L[l].ks.length) : ∃ v, L[l].vs[i]? = some v ∧ w.cell? ⟨L[l].vb, i, none⟩ = some (P v) := by
  obtain ⟨lv, near, hm, hn, hL⟩ := h.has
  have lok := hL.leaf L[l] (List.getElem_mem hl)
  have hlen := lok.vals.1
  simp at hlen
  refine ⟨L[l].vs[i]'(by omega), List.getElem?_eq_getElem (by omega), ?_⟩
  rw [lok.vals.cellAt i (by omega)]
  simp [show i < L[l].vs.length by omega]
set_option maxHeartbeats 1600000 in
theorem value (N mb l i : Nat) (sh sh' : Int) (L : List Leaf) (w : World) (hR : Rep N w mb sh' L) (hl : l < L.length) (hi : i < L[l].ks.length) :
    Calls Yba.prog 38 #[.agg (CC mb l i sh)] w fun e w' => ∃ v, L[l].vs[i]? = some v ∧ e = .returned (P v) ∧ Kp [] w w' := by
  obtain ⟨W, hW⟩ : ∃ W, W = w.alloc (.cells (CC mb l i sh) 35) := ⟨_, rfl⟩
  obtain ⟨B, hB⟩ : ∃ B, B = w.heap.size := ⟨_, rfl⟩
  have hK : Kp [] w W := by rw [hW]; exact (Kp.refl _ _).alloc _
  have hx : W.heap[B]? = some (.cells (CC mb l i sh) 35) := by rw [hW, hB]; exact heap_alloc_same _ _
  have hRW := hR.kp hK (by simp)
  obtain ⟨lb, lc, c1, hc1, hc2, c2, _, c3, _, _, _, few, kfew⟩ := hRW.entry l i hl hi
  obtain ⟨v, hv, c4⟩ := hRW.val l i hl hi
  obtain ⟨n, hn⟩ : ∃ n, n = L.length := ⟨_, rfl⟩
  obtain ⟨ll, hll⟩ : ∃ ll, ll = L[l] := ⟨_, rfl⟩
  obtain ⟨m, hm⟩ : ∃ m, m = L[l].ks.length := ⟨_, rfl⟩
  have hv' : Hid (L[l].vs[i]? = some v) := hv
  rw [← hn] at few c1 hc1
  rw [← hm] at kfew hi c3
  rw [← hll] at c2 c3 c4
  have b0 : W.cell? ⟨B, 0, none⟩ = some (P mb) := by rw [cell_of hx]; rfl
  have b1 : W.cell? ⟨B, 1, none⟩ = some (.int .i64 l) := by rw [cell_of hx]; rfl
  have b2 : W.cell? ⟨B, 2, none⟩ = some (.int .i64 i) := by rw [cell_of hx]; rfl
  have hli : (l : Int) < (n : Int) := by omega
  have hii : (i : Int) < (m : Int) := by omega
  clear hR hx hn hll hm hRW hv
  go_enter Yba.func38, Yba.ntmps38
  go_wp2_with fail
  rw [← hW, ← hB]
  clear hW hB
  go_quiet (fail)
  go_wp2
  go_ret
  exact ⟨v, hv'.out, rfl, hK.drewN _⟩

/-- Prev, at a cursor that lies in block b from cell o on: there is an entry ahead of it in the same leaf. -/
theorem prev_in (b o i : Nat) (c : Array Value) (t : TypeId) (w : World) (hb : w.heap[b]? = some (.cells c t)) (h2 : c[o + 2]? = some (.int .i64 ((i : Int) + 1))) (hi : i < 1000) :
    Calls Yba.prog 12 #[.pointer (some ⟨b, o, none⟩)] w fun e w' => e = .returned (.tuple #[]) ∧ Kp [b] w w' ∧ w'.heap[b]? = some (.cells (c.setIfInBounds (o + 2) (.int .i64 i)) t) := by
  have c2 : w.cell? ⟨b, o + 2, none⟩ = some (.int .i64 ((i : Int) + 1)) := by rw [cell_of hb]; exact h2
  have f : ∀ o, w.frozen? ⟨b, o, none⟩ = false := fun o => frozen_of hb
  have hb' : Hid (w.heap[b]? = some (.cells c t)) := hb
  clear hb h2
  go_enter Yba.func12, Yba.ntmps12
  go_wp2
  simp [bodyPost, results, Yba.results12]
  exact ⟨(Kp.refl _ _).setCell (by simp) _, heap_setCell_same' _ hb'.out⟩
/-- .. at the first entry of the map (or past the last of none). -/
theorem prev_first (b o : Nat) (c : Array Value) (t : TypeId) (w : World) (hb : w.heap[b]? = some (.cells c t)) (h1 : c[o + 1]? = some (.int .i64 0)) (h2 : c[o + 2]? = some (.int .i64 0)) :
    Calls Yba.prog 12 #[.pointer (some ⟨b, o, none⟩)] w fun e w' => e = .returned (.tuple #[]) ∧ Kp [b] w w' ∧ w'.heap[b]? = some (.cells (c.setIfInBounds (o + 1) (.int .i64 (-1))) t) := by
  have c1 : w.cell? ⟨b, o + 1, none⟩ = some (.int .i64 0) := by rw [cell_of hb]; exact h1
  have c2 : w.cell? ⟨b, o + 2, none⟩ = some (.int .i64 0) := by rw [cell_of hb]; exact h2
  have f : ∀ o, w.frozen? ⟨b, o, none⟩ = false := fun o => frozen_of hb
  have hb' : Hid (w.heap[b]? = some (.cells c t)) := hb
  clear hb h1 h2
  go_enter Yba.func12, Yba.ntmps12
  go_wp2
  go_end0
  exact ⟨rfl, (Kp.refl _ _).setCell (by simp) _, heap_setCell_same' _ hb'.out⟩
set_option maxHeartbeats 1600000 in
/-- .. at the first entry of a leaf that is not the first, or past the last. -/
theorem prev_over (N b o mb l : Nat) (sh' : Int) (L : List Leaf) (c : Array Value) (t : TypeId) (w : World) (hR : Rep N w mb sh' L) (hl : l < L.length) (hb : w.heap[b]? = some (.cells c t)) (ht : t ≠ 82 ∧ t ≠ 81 ∧ t ≠ 44 ∧ t ≠ 49 ∧ t ≠ 85) (h0 : c[o]? = some (P mb)) (h1 : c[o + 1]? = some (.int .i64 ((l : Int) + 1))) (h2 : c[o + 2]? = some (.int .i64 0)) :
    Calls Yba.prog 12 #[.pointer (some ⟨b, o, none⟩)] w fun e w' => e = .returned (.tuple #[]) ∧ Kp [b] w w' ∧ w'.heap[b]? = some (.cells ((c.setIfInBounds (o + 1) (.int .i64 l)).setIfInBounds (o + 2) (.int .i64 ((L[l].ks.length : Int) - 1))) t) := by
  have c0 : w.cell? ⟨b, o, none⟩ = some (P mb) := by rw [cell_of hb]; exact h0
  have c1 : w.cell? ⟨b, o + 1, none⟩ = some (.int .i64 ((l : Int) + 1)) := by rw [cell_of hb]; exact h1
  have c2 : w.cell? ⟨b, o + 2, none⟩ = some (.int .i64 0) := by rw [cell_of hb]; exact h2
  have f : ∀ o, w.frozen? ⟨b, o, none⟩ = false := fun o => frozen_of hb
  obtain ⟨W, hW⟩ : ∃ W, W = w.setCell ⟨b, o + 1, none⟩ (.int .i64 l) := ⟨_, rfl⟩
  have hK : Kp [b] w W := by rw [hW]; exact (Kp.refl _ _).setCell (by simp) _
  have hbW : W.heap[b]? = some (.cells (c.setIfInBounds (o + 1) (.int .i64 l)) t) := by rw [hW]; exact heap_setCell_same' _ hb
  obtain ⟨sz1, -⟩ := Array.getElem?_eq_some_iff.1 h1
  obtain ⟨sz2, -⟩ := Array.getElem?_eq_some_iff.1 h2
  have d0 : W.cell? ⟨b, o, none⟩ = some (P mb) := by rw [cell_of hbW]; simpa using h0
  have d1 : W.cell? ⟨b, o + 1, none⟩ = some (.int .i64 l) := by rw [cell_of hbW]; simp [sz1]
  have d2 : W.cell? ⟨b, o + 2, none⟩ = some (.int .i64 0) := by rw [cell_of hbW]; simpa using h2
  have f' : ∀ o, W.frozen? ⟨b, o, none⟩ = false := fun o => frozen_of hbW
  have hS : ∀ k ∈ [b], ∃ c t, w.heap[k]? = some (.cells c t) ∧ t ≠ 82 ∧ t ≠ 81 ∧ t ≠ 44 ∧ t ≠ 49 ∧ t ≠ 85 := by intro k hk; simp at hk; subst hk; exact ⟨_, _, hb, ht⟩
  have HE : ∀ w', Kp [b] w w' → Rep N w' mb sh' L := fun w' h => hR.kp h hS
  obtain ⟨lv, near, hm0, _, hL0⟩ := hR.has
  have lpos := (hL0.leaf L[l] (List.getElem_mem hl)).pos
  obtain ⟨lb, lc, hlv, hc1, hc2, hlbN, ⟨cur, hcur⟩, hcell⟩ := hL0.cell (by omega)
  subst hlv
  have lok := hL0.leaf L[l] (List.getElem_mem hl)
  have few := hL0.few
  have kfew := lok.few
  have e1 : w.cell? ⟨mb, 1, none⟩ = some (.slice (some ⟨lb, 0, none⟩) L.length lc) := by rw [cell_of hm0]; rfl
  have e2 : w.cell? ⟨lb, l, none⟩ = some (P L[l].b) := hcell l _ (List.getElem?_eq_getElem hl)
  have e3 : w.cell? ⟨L[l].b, 0, none⟩ = some (.slice (some ⟨L[l].kb, 0, none⟩) L[l].ks.length L[l].kc) := by rw [cell_of lok.blk]; rfl
  have n1 : mb ≠ b := ne_kind hm0 hb ht.2.2.2.2.symm
  have n2 : lb ≠ b := ne_kind hcur hb ht.1.symm
  have n3 : L[l].b ≠ b := ne_kind lok.blk hb ht.2.1.symm
  obtain ⟨n, hn⟩ : ∃ n, n = L.length := ⟨_, rfl⟩
  obtain ⟨ll, hll⟩ : ∃ ll, ll = L[l] := ⟨_, rfl⟩
  obtain ⟨m, hm⟩ : ∃ m, m = L[l].ks.length := ⟨_, rfl⟩
  rw [← hn] at few e1 hc1
  have hln : (l : Int) < (n : Int) := by omega
  rw [← hm] at kfew e3 lpos ⊢
  rw [← hll] at e2 e3 n3
  have H : ∀ w', Kp [b] w w' → w'.cell? ⟨mb, 1, none⟩ = some (.slice (some ⟨lb, 0, none⟩) n lc) ∧ w'.cell? ⟨lb, l, none⟩ = some (P ll.b) ∧ w'.cell? ⟨ll.b, 0, none⟩ = some (.slice (some ⟨ll.kb, 0, none⟩) m ll.kc) :=
    fun w' h => ⟨h.cell e1 (by simp [n1]), h.cell e2 (by simp [n2]), h.cell e3 (by simp [n3])⟩
  have K : ∀ w' : World, w'.heap[b]? = some (.cells ((c.setIfInBounds (o + 1) (.int .i64 l)).setIfInBounds (o + 2) (.int .i64 ((m : Int) - 1))) t) → w'.cell? ⟨b, o, none⟩ = some (P mb) ∧ w'.cell? ⟨b, o + 1, none⟩ = some (.int .i64 l) := by
    intro w' h
    rw [cell_of h, cell_of h]
    exact ⟨by simpa using h0, by simp [sz1]⟩
  have FIN : (W.setCell ⟨b, o + 2, none⟩ (.int .i64 ((m : Int) - 1))).heap[b]? = some (.cells ((c.setIfInBounds (o + 1) (.int .i64 l)).setIfInBounds (o + 2) (.int .i64 ((m : Int) - 1))) t) := heap_setCell_same' _ hbW
  have FIN' : Hid ((W.setCell ⟨b, o + 2, none⟩ (.int .i64 ((m : Int) - 1))).heap[b]? = some (.cells ((c.setIfInBounds (o + 1) (.int .i64 l)).setIfInBounds (o + 2) (.int .i64 ((m : Int) - 1))) t)) := FIN
  have hwr : IntKind.i64.wrap ((m : Int) - 1) = (m : Int) - 1 := by rw [IntKind.wrap_i64]; omega
  clear FIN hR hm0 hL0 hcell hcur lok hll hn hm HE hS hb h0 h1 h2 hbW e1 e2 e3 sz1 sz2
  go_enter Yba.func12, Yba.ntmps12
  go_upto_region 3 with fail
  rw [← hW]
  clear c0 c1 c2 f hW
  go_wp2_with fail
  go_region_held3 (fun w' => w'.cell? ⟨b, o, none⟩ = some (P mb) ∧ w'.cell? ⟨b, o + 1, none⟩ = some (.int .i64 l) ∧ w'.cell? ⟨mb, 1, none⟩ = some (.slice (some ⟨lb, 0, none⟩) n lc) ∧ w'.cell? ⟨lb, l, none⟩ = some (P ll.b) ∧ w'.cell? ⟨ll.b, 0, none⟩ = some (.slice (some ⟨ll.kb, 0, none⟩) m ll.kc))
    (first | exact ⟨d0, d1, H _ hK.drew⟩ | exact ⟨(K _ FIN'.out).1, (K _ FIN'.out).2, H _ (hK.setCell (by simp) _).drew⟩) (fail)
  go_wp2_with fail
  go_end0
  exact ⟨rfl, (hK.setCell (by simp) _).drew, FIN'.out⟩
end Go.Proofs.Ybulkcnom
