/-
  Seat b4471a, Forward and Back: NewTable.
-/
import Derived.Test.YbulkcnomWrite
namespace Go.Proofs.Ybulkcnom
open Go.RowKit
attribute [local go_sem ↓] Go.wp_at_zero Go.wp_at_succ
set_option maxRecDepth 20000 in
theorem newMap (w : World) : Calls Yba.prog 27 #[.func (.func 23) #[] #[]] w fun e w' => e = .returned (P w.heap.size) ∧ w'.heap[w.heap.size]? = some (.cells (MC (.slice none 0 0) 0 0) 85) ∧ Kp [] w w' := by
  go_enter Yba.func27, Yba.ntmps27
  go_wp2_with fail
  go_ret
  exact ⟨rfl, heap_alloc_same _ _, (Kp.refl _ _).alloc _⟩
set_option maxRecDepth 20000 in
set_option maxHeartbeats 1600000 in
theorem newTable (w : World) : Calls Yba.prog 18 #[.int .i64 0, .slice none 0 0] w fun e w' => ∃ tb mb, e = .returned (P tb) ∧ Tbl w.heap.size w' tb mb 0 [] ∧ Kp [] w w' := by
  go_enter Yba.func18, Yba.ntmps18
  go_wp2_with (go_at_call 27; refine (newMap _).mono ?_; rintro e w1 ⟨rfl, z1, k1⟩)
  obtain ⟨D, hD⟩ : ∃ D, D = w.heap.size := ⟨_, rfl⟩
  obtain ⟨E, hE⟩ : ∃ E, E = w1.heap.size := ⟨_, rfl⟩
  rw [← hD, ← hE]
  generalize hW2 : w1.alloc (.cells #[.int .i64 0, .bool true, P D, .slice none 0 0] 56) = W2
  have FIN : Hid (Tbl w.heap.size W2 E D 0 [] ∧ Kp [] w W2) := by
    subst hW2
    rw [← hD] at z1 ⊢
    have lz := lt_of z1
    refine ⟨⟨heap_alloc_at _ _ hE, ⟨Nat.le_refl _, _, 0, ((Kp.refl [] _).alloc _).at z1 (by simp), by simp, ?_⟩, ⟨by simp, by simp⟩, by intro v hv; simp [valsOf] at hv, Int.le_refl _⟩, k1.alloc _⟩
    exact ⟨World.ownsRow_nil _ _ _ _, by simp, by simp, by simp, by simp, by simp⟩
  clear hW2 hD hE z1 k1
  go_loopg [15] 0 (fun g s15 wx => g = 0 ∧ s15 = .int .i64 0 ∧ wx = W2)
  case atStart => exact ⟨rfl, rfl, rfl⟩
  case round =>
    obtain ⟨rfl, rfl, rfl⟩ := hrel
    go_wp2_with fail
    go_ret
    exact ⟨_, _, rfl, FIN.out⟩
end Go.Proofs.Ybulkcnom
