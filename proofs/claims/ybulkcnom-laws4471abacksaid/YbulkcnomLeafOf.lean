/-
  Seat b4471a, Forward and Back: leafOf and Seek, for whatever 'after' that answers a p which holds of all behind one it holds of.
-/
import Derived.Test.YbulkcnomClos
import Derived.Deep.RegionHeld3
import Derived.Deep.DeepCutAuto
namespace Go.Proofs.Ybulkcnom
open Go.RowKit
attribute [local go_sem ↓] Go.wp_at_zero Go.wp_at_succ
theorem lastOf' (N bx mb : Nat) (lv : Value) (near sh : Int) (L : List Leaf) (i : Nat) (z : Int) (hz : z = i) (hi : i < L.length) (w : World) (hx : w.heap[bx]? = some (.cells #[P mb] 33)) (hm : w.heap[mb]? = some (.cells (MC lv near sh) 85)) (hL : Lvs N w lv L) :
    Calls Yba.prog 36 #[.int .i64 z, P bx] w fun e w' => e = .returned (V (L[i].last)) ∧ Kp [] w w' := by
  subst hz
  exact lastOf N bx mb lv near sh L i L[i] (List.getElem?_eq_getElem hi) w hx hm hL
/-- The function value 'after' answers p. -/
def After (fn : Nat) (caps : Array Value) (p : Int → Bool) (mb : Nat) (sh : Int) (w : World) : Prop :=
  (∀ args w', Sem.run Yba.prog (callFunc fn args) w' = .ok (.enter fn args) w') ∧
  ∀ w', Kp [mb] w w' → (∃ (lv : Value) (near : Int), w'.heap[mb]? = some (.cells (MC lv near sh) 85)) → ∀ x, Calls Yba.prog fn (#[V x] ++ caps) w' fun e w'' => e = .returned (.bool (p x)) ∧ Kp [] w' w''
theorem Rep.near {N mb : Nat} {sh : Int} {L : List Leaf} {w : World} {lv : Value} {x : Int} (hb : N ≤ mb) (hm : w.heap[mb]? = some (.cells (MC lv x sh) 85)) (hL : Lvs N w lv L) (near : Nat) (z : Int) (hz : z = near) (hn : near ≤ L.length) : Rep N (w.setCell ⟨mb, 2, none⟩ (.int .i64 z)) mb sh L := by
  subst hz
  refine ⟨hb, lv, near, heap_setCell_same' _ hm, hn, hL.kp ((Kp.refl [mb] w).setCell (by simp) _) ?_⟩
  intro k hk
  simp at hk
  subst hk
  exact ⟨_, _, hm, by decide, by decide, by decide, by decide⟩
set_option maxRecDepth 20000 in
set_option maxHeartbeats 1600000 in
theorem leafOf (N mb : Nat) (sh : Int) (L : List Leaf) (fn : Nat) (caps : Array Value) (p : Int → Bool) (w : World) (hR : Rep N w mb sh L) (hA : After fn caps p mb sh w)
    (hmono : ∀ i j (hi : i < L.length) (hj : j < L.length), i ≤ j → p L[i].last = true → p L[j].last = true) :
    Calls Yba.prog 26 #[P mb, .func (.func fn) #[] caps] w fun e w' => ∃ l : Nat, e = .returned (.int .i64 l) ∧ l ≤ L.length ∧ (∀ i (h : i < L.length), i < l → p L[i].last = false) ∧ (∀ h : l < L.length, p L[l].last = true) ∧ Kp [mb] w w' ∧ Rep N w' mb sh L := by
  obtain ⟨lv, near, hm, hnear, hL⟩ := hR.has
  have hbase := hR.base
  obtain ⟨W, hW⟩ : ∃ W, W = w.alloc (.cells #[P mb] 33) := ⟨_, rfl⟩
  obtain ⟨B, hB⟩ : ∃ B, B = w.heap.size := ⟨_, rfl⟩
  have hK : Kp [] w W := by rw [hW]; exact (Kp.refl _ _).alloc _
  have hx : W.heap[B]? = some (.cells #[P mb] 33) := by rw [hW, hB]; exact heap_alloc_same _ _
  have hmW := hK.at hm (by simp)
  have hLW : Lvs N W lv L := hL.kp hK (by simp)
  have few := hL.few
  obtain ⟨n, hn⟩ : ∃ n, n = L.length := ⟨_, rfl⟩
  have c1 : W.cell? ⟨B, 0, none⟩ = some (P mb) := by rw [cell_of hx]; rfl
  obtain ⟨ao, cap, hlv⟩ : ∃ ao cap, lv = .slice ao n cap := by
    rcases hL.row.2 with ⟨h, h0⟩ | ⟨g, cap, cur, h, _⟩
    · exact ⟨none, 0, by rw [h, hn, h0]⟩
    · exact ⟨_, _, by rw [hn]; exact h⟩
  subst hlv
  have c2 : W.cell? ⟨mb, 1, none⟩ = some (.slice ao n cap) := by rw [cell_of hmW]; rfl
  have c3 : W.cell? ⟨mb, 2, none⟩ = some (.int .i64 near) := by rw [cell_of hmW]; rfl
  have hn' : Hid (n = L.length) := hn
  rw [← hn] at few hnear
  clear hn
  have HW : ∀ w', Kp [] W w' → w'.heap[B]? = some (.cells #[P mb] 33) ∧ w'.heap[mb]? = some (.cells (MC (.slice ao n cap) near sh) 85) ∧ Lvs N w' (.slice ao n cap) L :=
    fun w' h => ⟨h.at hx (by simp), h.at hmW (by simp), hLW.kp h (by simp)⟩
  have HL : ∀ w' (i : Nat) (z : Int), Kp [] W w' → z = i → ∀ hi : i < L.length, Calls Yba.prog 36 #[.int .i64 z, P B] w' fun e w'' => e = .returned (V (L[i].last)) ∧ Kp [] W w'' := by
    intro w' i z h hz hi
    obtain ⟨a1, a2, a3⟩ := HW w' h
    exact (lastOf' N B mb _ near sh L i z hz hi w' a1 a2 a3).mono fun e w'' ⟨h1, h2⟩ => ⟨h1, h.trans h2⟩
  have HA : ∀ w' x, Kp [] W w' → Calls Yba.prog fn (#[V x] ++ caps) w' fun e w'' => e = .returned (.bool (p x)) ∧ Kp [] W w'' := by
    intro w' x h
    obtain ⟨a1, a2, a3⟩ := HW w' h
    exact (hA.2 w' (hK.trans h).any ⟨_, _, a2⟩ x).mono fun e w'' ⟨h1, h2⟩ => ⟨h1, h.trans h2⟩
  have hrun := hA.1
  go_enter Yba.func26, Yba.ntmps26
  go_upto_region 1 with fail
  rw [← hW, ← hB]
  clear hW hB hA hR hm hL
  go_upto_if 23 with fail
  go_cut [] (fun wx => Kp [] W wx)
  case first =>
    have HR : Hid (∀ w', Kp [] W w' → Kp [mb] w w' ∧ Rep N w' mb sh L) := fun w' h => ⟨(hK.trans h).any, hbase, _, near, (HW w' h).2.1, by have := hn'.out; omega, (HW w' h).2.2⟩
    by_cases h1 : near < n
    · have hL1 : near < L.length := by have := hn'.out; omega
      obtain ⟨v, hv⟩ : ∃ v, v = p L[near].last := ⟨_, rfl⟩
      have hv' : Hid (v = p L[near].last) := hv
      obtain ⟨x, hx⟩ : ∃ x, x = L[near].last := ⟨_, rfl⟩
      rw [← hx] at hv
      have HL' := HL W near near (Kp.refl _ _) rfl hL1
      rw [← hx] at HL'
      clear hx
      go_wp2_with fail
      refine HL'.mono ?_
      rintro e w1 ⟨rfl, hkw1⟩
      go_wp2_with fail
      refine (HA w1 x hkw1).mono ?_
      rintro e w2 ⟨rfl, hkw2⟩
      rw [← hv]
      clear hv HL'
      cases v
      · by_cases h2 : near + 1 = n
        · go_wp2_with fail
          go_ret
          refine ⟨n, rfl, by have := hn'.out; omega, fun i h hi => ?_, fun h => by have := hn'.out; omega, HR.out _ hkw2⟩
          have h3 := hv'.out
          cases hb : p L[i].last with
          | false => rfl
          | true => rw [hmono i near h hL1 (by omega) hb] at h3; cases h3
        · have hL2 : near + 1 < L.length := by have := hn'.out; omega
          obtain ⟨v2, hv2⟩ : ∃ v, v = p L[near + 1].last := ⟨_, rfl⟩
          have hv2' : Hid (v2 = p L[near + 1].last) := hv2
          obtain ⟨x2, hx2⟩ : ∃ x, x = L[near + 1].last := ⟨_, rfl⟩
          rw [← hx2] at hv2
          have HL2 := HL w2 (near + 1) ((near : Int) + 1) hkw2 (by omega) hL2
          rw [← hx2] at HL2
          clear hx2
          go_wp2_with fail
          refine HL2.mono ?_
          rintro e w3 ⟨rfl, hkw3⟩
          go_wp2_with fail
          refine (HA w3 x2 hkw3).mono ?_
          rintro e w4 ⟨rfl, hkw4⟩
          rw [← hv2]
          clear hv2 HL2
          have HWr := HW w4 hkw4
          cases v2
          · go_wp2_with fail
            go_meet
            case rel => exact hkw4
          · have d1 : w4.cell? ⟨B, 0, none⟩ = some (P mb) := by rw [cell_of HWr.1]; rfl
            have d2 : w4.cell? ⟨mb, 2, none⟩ = some (.int .i64 near) := by rw [cell_of HWr.2.1]; rfl
            have d3 : w4.frozen? ⟨mb, 2, none⟩ = false := frozen_of HWr.2.1
            go_wp2_with fail
            go_ret
            refine ⟨near + 1, by simp, by omega, fun i h hi => ?_, fun h => hv2'.out.symm, (hK.trans hkw4).any.setCell (by simp) _, Rep.near hbase HWr.2.1 HWr.2.2 (near + 1) _ (by omega) (by omega)⟩
            have h3 := hv'.out
            cases hb : p L[i].last with
            | false => rfl
            | true => rw [hmono i near h hL1 (by omega) hb] at h3; cases h3
      · by_cases h2 : near = 0
        · subst h2
          go_wp2_with fail
          go_ret
          exact ⟨0, rfl, by omega, fun i h hi => by omega, fun h => hv'.out.symm, HR.out _ hkw2⟩
        · obtain ⟨nr, rfl⟩ : ∃ nr, near = nr + 1 := ⟨near - 1, by omega⟩
          have hL2 : nr < L.length := by have := hn'.out; omega
          obtain ⟨v2, hv2⟩ : ∃ v, v = p L[nr].last := ⟨_, rfl⟩
          have hv2' : Hid (v2 = p L[nr].last) := hv2
          obtain ⟨x2, hx2⟩ : ∃ x, x = L[nr].last := ⟨_, rfl⟩
          rw [← hx2] at hv2
          have HL2 := fun z hz => HL w2 nr z hkw2 hz hL2
          rw [← hx2] at HL2
          clear hx2
          have hz0 : (((nr + 1 : Nat) : Int) == 0) = false := by simp; omega
          go_wp2_with fail
          refine (HL2 _ (by omega)).mono ?_
          rintro e w3 ⟨rfl, hkw3⟩
          go_wp2_with fail
          refine (HA w3 x2 hkw3).mono ?_
          rintro e w4 ⟨rfl, hkw4⟩
          rw [← hv2]
          clear hv2 HL2
          cases v2
          · go_wp2_with fail
            go_ret
            refine ⟨nr + 1, rfl, by omega, fun i h hi => ?_, fun h => hv'.out.symm, HR.out _ hkw4⟩
            have h3 := hv2'.out
            cases hb : p L[i].last with
            | false => rfl
            | true => rw [hmono i nr h hL2 (by omega) hb] at h3; cases h3
          · go_wp2_with fail
            go_meet
            case rel => exact hkw4
    · go_wp2_with fail
      go_meet
      case rel => exact Kp.refl _ _
  case rest =>
    clear c1 c2 c3
    go_wp2_with fail
    go_loopg [8, 9] n (fun g s8 s9 wx => ∃ i j : Nat, i ≤ j ∧ j ≤ n ∧ g = j - i ∧ s8 = .int .i64 i ∧ s9 = .int .i64 j ∧ Kp [] W wx ∧ (∀ k (h : k < L.length), k < i → p L[k].last = false) ∧ (∀ k (h : k < L.length), j ≤ k → p L[k].last = true))
    case atStart => exact ⟨0, n, Nat.zero_le _, Nat.le_refl _, rfl, rfl, rfl, hcut, fun k h h' => absurd h' (by omega), fun k h h' => by have := hn'.out; omega⟩
    case round =>
      obtain ⟨i, j, hij, hjn, rfl, rfl, rfl, hkw, hlo, hhi⟩ := hrel
      have hlo' : Hid (∀ k (h : k < L.length), k < i → p L[k].last = false) := hlo
      have hhi' : Hid (∀ k (h : k < L.length), j ≤ k → p L[k].last = true) := hhi
      clear hlo hhi
      by_cases hlt : i < j
      · have hhL : (i + j) / 2 < L.length := by have := hn'.out; omega
        obtain ⟨v, hv⟩ : ∃ v, v = p L[(i + j) / 2].last := ⟨_, rfl⟩
        have hv' : Hid (v = p L[(i + j) / 2].last) := hv
        obtain ⟨x, hx⟩ : ∃ x, x = L[(i + j) / 2].last := ⟨_, rfl⟩
        rw [← hx] at hv
        have HL' := HL wr ((i + j) / 2) (((i : Int) + j) / 2) hkw (by omega) hhL
        rw [← hx] at HL'
        clear hx
        go_wp2_with fail
        refine HL'.mono ?_
        rintro e w1 ⟨rfl, hkw1⟩
        go_wp2_with fail
        refine (HA w1 x hkw1).mono ?_
        rintro e w2 ⟨rfl, hkw2⟩
        rw [← hv]
        clear hv HL'
        cases v
        · go_wp2_with fail
          go_roundg (j - ((i + j) / 2 + 1))
          case measure => omega
          case rel =>
            refine ⟨(i + j) / 2 + 1, j, by omega, hjn, rfl, by simp, rfl, hkw2, fun k h hk => ?_, hhi'.out⟩
            have h2 := hv'.out
            cases hb : p L[k].last with
            | false => rfl
            | true => rw [hmono k ((i + j) / 2) h hhL (by omega) hb] at h2; cases h2
        · go_wp2_with fail
          go_roundg ((i + j) / 2 - i)
          case measure => omega
          case rel =>
            refine ⟨i, (i + j) / 2, by omega, by omega, rfl, rfl, by simp, hkw2, hlo'.out, fun k h hk => ?_⟩
            exact hmono ((i + j) / 2) k hhL h hk hv'.out.symm
      · obtain rfl : i = j := by omega
        have HWr := HW wr hkw
        by_cases hin : i < n
        · have d1 : wr.cell? ⟨B, 0, none⟩ = some (P mb) := by rw [cell_of HWr.1]; rfl
          have d2 : wr.cell? ⟨mb, 2, none⟩ = some (.int .i64 near) := by rw [cell_of HWr.2.1]; rfl
          have d3 : wr.frozen? ⟨mb, 2, none⟩ = false := frozen_of HWr.2.1
          clear HW HL HA hx hmW hLW
          go_wp2_with fail
          go_ret
          have hnL := hn'.out
          exact ⟨i, rfl, by omega, fun k h hk => hlo'.out k h hk, fun h => hhi'.out i h (Nat.le_refl _), (hK.trans hkw).any.setCell (by simp) _, Rep.near hbase HWr.2.1 HWr.2.2 i _ rfl (by omega)⟩
        · go_wp2_with fail
          go_ret
          have hnL := hn'.out
          exact ⟨i, rfl, by omega, fun k h hk => hlo'.out k h hk, fun h => by omega, (hK.trans hkw).any, hbase, _, near, HWr.2.1, by omega, HWr.2.2⟩
end Go.Proofs.Ybulkcnom
