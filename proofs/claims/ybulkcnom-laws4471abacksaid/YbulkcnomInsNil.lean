import Derived.Test.YbulkcnomPlace
namespace Go.Proofs.Ybulkcnom
open Go.RowKit
attribute [local go_sem ↓] Go.wp_at_zero Go.wp_at_succ
set_option maxRecDepth 20000 in
set_option maxHeartbeats 1600000 in
theorem insert_nil (N mb l i v : Nat) (sh k : Int) (w : World) (hR : Rep N w mb sh []) (h0 : 0 ≤ sh) (h1 : sh < 100000) :
    Calls Yba.prog 39 #[P mb, .agg (CC mb l i sh), V k, P v] w fun e w' => e = .returned (.tuple #[]) ∧ Ins N mb sh k v [] w w' := by
  obtain ⟨lv, near, hm, hnear, hL⟩ := hR.has
  have hbase := hR.base
  obtain ⟨ao, cap, rfl⟩ : ∃ ao cap, lv = .slice ao 0 cap := by
    rcases hL.row.2 with ⟨rfl, _⟩ | ⟨g, cap, cur, rfl, _⟩
    · exact ⟨_, _, rfl⟩
    · exact ⟨_, _, rfl⟩
  obtain ⟨B, hB⟩ : ∃ B, B = w.heap.size := ⟨_, rfl⟩
  obtain ⟨W, hW⟩ : ∃ W, W = ((w.alloc (.cells (CC mb l i sh) 35)).alloc (.cells (VC k) 44)) := ⟨_, rfl⟩
  have hK : Kp [] w W := by rw [hW]; exact ((Kp.refl _ _).alloc _).alloc _
  have hmb := lt_of hm
  have hmW : W.heap[mb]? = some (.cells (MC (.slice ao 0 cap) near sh) 85) := hK.at hm (by simp)
  have x0 : W.heap[B]? = some (.cells (CC mb l i sh) 35) := by rw [hW, hB]; exact ((Kp.refl [] _).alloc _).at (heap_alloc_same _ _) (by simp)
  have x1 : W.heap[B + 1]? = some (.cells (VC k) 44) := by rw [hW, hB]; exact heap_alloc_at _ _ (by simp)
  have hWs : W.heap.size = B + 2 := by rw [hW, hB]; simp
  have a1 : W.cell? ⟨mb, 1, none⟩ = some (.slice ao 0 cap) := by rw [cell_of hmW]; rfl
  have a3 : W.cell? ⟨mb, 3, none⟩ = some (.int .u64 sh) := by rw [cell_of hmW]; rfl
  have fm : ∀ o, W.frozen? ⟨mb, o, none⟩ = false := fun o => frozen_of hmW
  have hwr : IntKind.u64.wrap (sh + 1) = sh + 1 := by rw [IntKind.wrap_u64]; omega
  obtain ⟨W1, hW1⟩ : ∃ W1, W1 = W.setCell ⟨mb, 3, none⟩ (.int .u64 (sh + 1)) := ⟨_, rfl⟩
  have hW1s : W1.heap.size = B + 2 := by rw [hW1]; simpa using hWs
  have hm1 : W1.heap[mb]? = some (.cells (MC (.slice ao 0 cap) near (sh + 1)) 85) := by rw [hW1]; exact heap_setCell_same' _ hmW
  have hK1 : Kp [mb] w W1 := by rw [hW1]; exact hK.any.setCell (by simp) _
  have y1 : W1.heap[B + 1]? = some (.cells (VC k) 44) := by rw [hW1, Below.heap_setCell _ _ _ _ (by simp; omega)]; exact x1
  have d1 : W1.cell? ⟨mb, 1, none⟩ = some (.slice ao 0 cap) := by rw [cell_of hm1]; rfl
  have b0 : W1.cell? ⟨B + 1, 0, none⟩ = some (.int .u8 1) := by rw [cell_of y1]; rfl
  have b1 : W1.cell? ⟨B + 1, 1, none⟩ = some (.int .i64 k) := by rw [cell_of y1]; rfl
  have b2 : W1.cell? ⟨B + 1, 2, none⟩ = some (.string ⟨#[]⟩) := by rw [cell_of y1]; rfl
  have kT : Kp [] W1 ((((W1.alloc (.cells #[.int .u8 1, .int .i64 k, .string ⟨#[]⟩] 44)).alloc (.cells #[P v] 49)).alloc (.cells #[.slice (some ⟨B + 2, 0, none⟩) 1 1, .slice (some ⟨B + 2 + 1, 0, none⟩) 1 1] 81)).alloc (.cells #[.pointer (some ⟨B + 2 + 1 + 1, 0, none⟩)] 82)) := ((((Kp.refl _ _).alloc _).alloc _).alloc _).alloc _
  have hmT := kT.at hm1 (by simp)
  have t1 : ((((W1.alloc (.cells #[.int .u8 1, .int .i64 k, .string ⟨#[]⟩] 44)).alloc (.cells #[P v] 49)).alloc (.cells #[.slice (some ⟨B + 2, 0, none⟩) 1 1, .slice (some ⟨B + 2 + 1, 0, none⟩) 1 1] 81)).alloc (.cells #[.pointer (some ⟨B + 2 + 1 + 1, 0, none⟩)] 82)).cell? ⟨mb, 1, none⟩ = some (.slice ao 0 cap) := by rw [cell_of hmT]; rfl
  have t2 : ((((W1.alloc (.cells #[.int .u8 1, .int .i64 k, .string ⟨#[]⟩] 44)).alloc (.cells #[P v] 49)).alloc (.cells #[.slice (some ⟨B + 2, 0, none⟩) 1 1, .slice (some ⟨B + 2 + 1, 0, none⟩) 1 1] 81)).alloc (.cells #[.pointer (some ⟨B + 2 + 1 + 1, 0, none⟩)] 82)).frozen? ⟨mb, 1, none⟩ = false := frozen_of hmT
  obtain ⟨T, hT⟩ : ∃ T, T = ((((W1.alloc (.cells #[.int .u8 1, .int .i64 k, .string ⟨#[]⟩] 44)).alloc (.cells #[P v] 49)).alloc (.cells #[.slice (some ⟨B + 2, 0, none⟩) 1 1, .slice (some ⟨B + 2 + 1, 0, none⟩) 1 1] 81)).alloc (.cells #[.pointer (some ⟨B + 2 + 1 + 1, 0, none⟩)] 82)) := ⟨_, rfl⟩
  have kT' : Kp [] W1 T := by rw [hT]; exact kT
  rw [← hT] at hmT
  have FIN : Hid (Ins N mb sh k v [] w (T.setCell ⟨mb, 1, none⟩ (.slice (some ⟨B + 5, 0, none⟩) 1 1))) := by
    refine Ins.mk (L' := [⟨B + 4, B + 2, 1, B + 3, 1, [k], [v]⟩]) (A := []) (B := []) ⟨by simp, by simp⟩ (by simp [keysOf]) (by simp) (by simp) ?_ (by simp [keysOf]) (by simp [valsOf]) ?_
    · have z2 : T.heap[B + 2]? = some (.cells (VC k) 44) := by
        rw [hT]; exact ((((Kp.refl [] _).alloc _).alloc _).alloc _).at (heap_alloc_at _ _ hW1s.symm) (by simp)
      have z3 : T.heap[B + 3]? = some (.cells #[P v] 49) := by
        rw [hT]; exact (((Kp.refl [] _).alloc _).alloc _).at (heap_alloc_at _ _ (by simp [hW1s])) (by simp)
      have z4 : T.heap[B + 4]? = some (.cells #[.slice (some ⟨B + 2, 0, none⟩) 1 1, .slice (some ⟨B + 3, 0, none⟩) 1 1] 81) := by
        rw [hT]; exact ((Kp.refl [] _).alloc _).at (heap_alloc_at _ _ (by simp [hW1s])) (by simp)
      have z5 : T.heap[B + 5]? = some (.cells #[P (B + 4)] 82) := by
        rw [hT]; exact heap_alloc_at _ _ (by simp [hW1s])
      have far : ∀ x c t, T.heap[x]? = some (Obj.cells c t) → x ≠ mb → (T.setCell ⟨mb, 1, none⟩ (.slice (some ⟨B + 5, 0, none⟩) 1 1)).heap[x]? = some (Obj.cells c t) := fun x c t h hx => by
        rw [Below.heap_setCell _ _ _ _ (by simpa using hx)]; exact h
      refine ⟨hbase, _, near, heap_setCell_same' _ hmT, by simp at hnear; simp [hnear], ⟨?_, ?_, by simp, by simp, by simp, by simp⟩⟩
      · exact ⟨by simp, .inr ⟨B + 5, 1, _, rfl, by omega, far _ _ _ z5 (by omega), by simp, by decide, by simp, by simp⟩⟩
      · intro x hx
        simp at hx
        subst hx
        refine ⟨by show N ≤ B + 4; omega, far (B + 4) _ _ z4 (by omega), ?_, ?_, by simp, by simp⟩
        · exact ⟨by simp [flat], .inr ⟨B + 2, 1, _, rfl, by omega, far _ _ _ z2 (by omega), by simp, by decide, by simp, by simp [flat]⟩⟩
        · exact ⟨by simp, .inr ⟨B + 3, 1, _, rfl, by omega, far _ _ _ z3 (by omega), by simp, by decide, by simp, by simp⟩⟩
    · exact Fr.of ((hK1.trans (kT'.any)).setCell (by simp) _) (by simp; exact .inr ⟨hbase, _, _, hm, by decide⟩)
  have hT' : Hid (T = ((((W1.alloc (.cells #[.int .u8 1, .int .i64 k, .string ⟨#[]⟩] 44)).alloc (.cells #[P v] 49)).alloc (.cells #[.slice (some ⟨B + 2, 0, none⟩) 1 1, .slice (some ⟨B + 2 + 1, 0, none⟩) 1 1] 81)).alloc (.cells #[.pointer (some ⟨B + 2 + 1 + 1, 0, none⟩)] 82))) := hT
  clear hT
  go_enter Yba.func39, Yba.ntmps39
  go_upto_region 1 with fail
  rw [← hW, ← hB]
  clear hW hB hm hR hL x0 x1 hmW hK
  go_upto_if 18 with fail
  rw [← hW1]
  clear hW1 hm1 hK1 y1 kT hmT a1 a3 fm kT'
  go_wp2_with fail
  simp [bodyPost, results, Yba.results39]
  have F := FIN.out
  rw [hT'.out] at F
  exact F
end Go.Proofs.Ybulkcnom
