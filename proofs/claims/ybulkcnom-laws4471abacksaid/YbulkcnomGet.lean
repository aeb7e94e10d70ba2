/-
  Seat b4471a, Forward and Back: Get.
-/
import Derived.Test.YbulkcnomPlace
namespace Go.Proofs.Ybulkcnom
open Go.RowKit
attribute [local go_sem ↓] Go.wp_at_zero Go.wp_at_succ
set_option maxRecDepth 20000 in
set_option maxHeartbeats 1600000 in
theorem get (N mb : Nat) (sh k : Int) (L : List Leaf) (w : World) (hR : Rep N w mb sh L) (hs : Srt L) :
    Calls Yba.prog 29 #[P mb, V k] w fun e w' => ∃ p : Option Nat, e = .returned (.tuple #[.pointer (p.map fun v => ⟨v, 0, none⟩), .bool p.isSome]) ∧ (∀ v, p = some v → v ∈ valsOf L) ∧ Kp [mb] w w' ∧ Rep N w' mb sh L := by
  obtain ⟨W, hW⟩ : ∃ W, W = w.alloc (.cells (VC k) 44) := ⟨_, rfl⟩
  obtain ⟨B, hB⟩ : ∃ B, B = w.heap.size := ⟨_, rfl⟩
  have hK : Kp [] w W := by rw [hW]; exact (Kp.refl _ _).alloc _
  have hRW := hR.kp hK (by simp)
  have hC := find N mb sh k L W hRW hs
  have x0 : W.heap[B]? = some (.cells (VC k) 44) := by rw [hW, hB]; exact heap_alloc_same _ _
  have c0 : W.cell? ⟨B, 0, none⟩ = some (.int .u8 1) := by rw [cell_of x0]; rfl
  have c1 : W.cell? ⟨B, 1, none⟩ = some (.int .i64 k) := by rw [cell_of x0]; rfl
  have c2 : W.cell? ⟨B, 2, none⟩ = some (.string ⟨#[]⟩) := by rw [cell_of x0]; rfl
  go_enter Yba.func29, Yba.ntmps29
  go_upto_region 1 with fail
  rw [← hW, ← hB]
  clear hW hB
  go_wp2_with fail
  refine hC.mono ?_
  rintro e w1 ⟨l, i, rfl, hPos, hk1, hR1⟩
  clear hC x0 c0 c1 c2
  obtain ⟨C, hCs⟩ : ∃ C, C = w1.heap.size := ⟨_, rfl⟩
  obtain ⟨W2, hW2⟩ : ∃ W2, W2 = w1.alloc (.cells (CC mb l i sh) 35) := ⟨_, rfl⟩
  have x1 : W2.heap[C]? = some (.cells (CC mb l i sh) 35) := by rw [hW2]; exact heap_alloc_at _ _ hCs
  have hk2 : Kp [] w1 W2 := by rw [hW2]; exact (Kp.refl _ _).alloc _
  have hR2 : Rep N W2 mb sh L := hR1.kp hk2 (by simp)
  have a5 : W2.cell? ⟨C, 0, none⟩ = some (P mb) := by rw [cell_of x1]; rfl
  have a6 : W2.cell? ⟨C, 1, none⟩ = some (.int .i64 l) := by rw [cell_of x1]; rfl
  have a7 : W2.cell? ⟨C, 2, none⟩ = some (.int .i64 i) := by rw [cell_of x1]; rfl
  have a8 : W2.cell? ⟨C, 3, none⟩ = some (.int .u64 sh) := by rw [cell_of x1]; rfl
  have kk : Kp [mb] w W2 := (hK.any.trans hk1).trans hk2.any
  by_cases hat : atKey L l i = some k
  · have hl : l < L.length := by
      rcases Nat.lt_or_ge l L.length with h | h
      · exact h
      · simp [atKey, List.getElem?_eq_none h] at hat
    obtain ⟨hi, _, _⟩ := hPos.here hl
    have hV := value N mb l i sh sh L W2 hR2 hl hi
    rw [decide_eq_true hat]
    clear x1 hPos hR1 hat hk1 hR hRW
    go_upto_region 2 with fail
    rw [← hW2, ← hCs]
    clear hW2 hCs
    go_wp2_with fail
    refine hV.mono ?_
    rintro e w3 ⟨v, hv, rfl, hk3⟩
    go_wp2_with fail
    go_ret2
    refine ⟨some v, rfl, fun x hx => ?_, kk.trans hk3.any, hR2.kp hk3 (by simp)⟩
    simp at hx
    subst hx
    exact List.mem_flatMap.2 ⟨L[l], List.getElem_mem hl, List.mem_of_getElem? hv⟩
  · rw [decide_eq_false hat]
    clear x1 hPos hR1 hk1 hR hRW
    go_upto_region 2 with fail
    rw [← hW2, ← hCs]
    clear hW2 hCs
    go_wp2_with fail
    go_ret2
    exact ⟨none, rfl, by simp, kk, hR2⟩
end Go.Proofs.Ybulkcnom
