/-
  Seat b4471a: (*Request[int]).waitsForAllOf, walked once; what it answers: 'wa'.
-/
import Derived.Test.YbulkcnomRows
import Derived.WalkKit
import Derived.WalkSpells
import Derived.ProofKit
import Derived.OpenShut
import Derived.RegionTactic
import Derived.BigRegion
import Derived.Deep.Draws
namespace Go.Proofs.Ybulkcnom
open Go.RowKit
/-- What waitsForAllOf answers. -/
def wa (rm rk em ek : Int) : Bool := if rk = 3 ∨ ek = 3 then decide (rk = ek) else (decide (rm = 1) || decide (em = 0))
set_option maxHeartbeats 800000 in
theorem waits (b b' : Nat) (rm rk em ek : Int) (v : Bool) (hv : wa rm rk em ek = v) (w : World)
    (c3 : w.cell? ⟨b, 3, none⟩ = some (.int .u8 rm)) (c4 : w.cell? ⟨b, 4, none⟩ = some (.int .u8 rk)) (d3 : w.cell? ⟨b', 3, none⟩ = some (.int .u8 em)) (d4 : w.cell? ⟨b', 4, none⟩ = some (.int .u8 ek)) :
    Calls Yba.prog 16 #[.pointer (some ⟨b, 0, none⟩), .pointer (some ⟨b', 0, none⟩)] w fun e w' => e = .returned (.bool v) ∧ ∃ n, w' = w.drewN n := by
  subst hv
  by_cases h1 : rk = 3
  · have hq : (rk == 3) = true := by simpa using h1
    have hw : wa rm rk em ek = (rk == ek) := by unfold wa; rw [if_pos (Or.inl h1)]; by_cases h : rk = ek <;> simp [h]
    rw [hw]
    clear h1 hw
    go_enter Yba.func16, Yba.ntmps16
    go_wp2
    go_region
    all_goals (go_wp2; go_ret; exact ⟨rfl, 1, rfl⟩)
  · by_cases h2 : ek = 3
    · have hq : (rk == 3) = false := by simpa using h1
      have hq2 : (ek == 3) = true := by simpa using h2
      have hw : wa rm rk em ek = (rk == ek) := by unfold wa; rw [if_pos (Or.inr h2)]; by_cases h : rk = ek <;> simp [h]
      rw [hw]
      clear h1 h2 hw
      go_enter Yba.func16, Yba.ntmps16
      go_wp2
      go_region
      all_goals (go_wp2; go_ret; exact ⟨rfl, 1, rfl⟩)
    · have hq : (rk == 3) = false := by simpa using h1
      have hq2 : (ek == 3) = false := by simpa using h2
      by_cases h3 : rm = 1
      · have hq3 : (rm == 1) = true := by simpa using h3
        have hw : wa rm rk em ek = true := by unfold wa; rw [if_neg (by simp [h1, h2])]; simp [h3]
        rw [hw]
        clear h1 h2 h3 hw
        go_enter Yba.func16, Yba.ntmps16
        go_wp2
        go_ret
        exact ⟨rfl, 0, rfl⟩
      · have hq3 : (rm == 1) = false := by simpa using h3
        have hw : wa rm rk em ek = (em == 0) := by unfold wa; rw [if_neg (by simp [h1, h2])]; by_cases h : em = 0 <;> simp [h, h3]
        rw [hw]
        clear h1 h2 h3 hw
        go_enter Yba.func16, Yba.ntmps16
        go_wp2
        go_ret
        exact ⟨rfl, 0, rfl⟩

theorem Grown.drewN {W w' : World} (h : Grown W w') (n : Nat) : Grown W (w'.drewN n) := h
end Go.Proofs.Ybulkcnom
