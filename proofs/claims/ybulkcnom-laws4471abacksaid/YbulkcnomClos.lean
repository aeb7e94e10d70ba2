/-
  Seat b4471a, Forward and Back: the closures: leafOf's 'last', find's, fromPlace's.
-/
import Derived.Test.YbulkcnomFrame
import Derived.Deep.RegionHeld3
namespace Go.Proofs.Ybulkcnom
open Go.RowKit
attribute [local go_sem ↓] Go.wp_at_zero Go.wp_at_succ
theorem Lvs.cell {N : Nat} {w : World} {lv : Value} {L : List Leaf} (h : Lvs N w lv L) (hL : 0 < L.length) : ∃ lb lc, lv = .slice (some ⟨lb, 0, none⟩) L.length lc ∧ L.length ≤ lc ∧ lc ≤ maxLen ∧ N ≤ lb ∧ (∃ cur : Array Value, w.heap[lb]? = some (.cells cur 82)) ∧ ∀ i l, L[i]? = some l → w.cell? ⟨lb, i, none⟩ = some (P l.b) := by
  rcases h.row.2 with ⟨_, h0⟩ | ⟨g, cap, cur, rfl, hN, hg, h1, h2, h3, h4⟩
  · omega
  · refine ⟨g, cap, rfl, h1, h2, hN, ⟨cur, hg⟩, fun i l hl => ?_⟩
    have hi : i < L.length := (List.getElem?_eq_some_iff.1 hl).1
    rw [h.row.cellAt i (by omega)]
    simp [hl]
theorem LeafOk.key {N : Nat} {w : World} {l : Leaf} (h : LeafOk N w l) (i : Nat) (hi : i < l.ks.length) : w.cell? ⟨l.kb, i * 3, none⟩ = some (.int .u8 1) ∧ w.cell? ⟨l.kb, i * 3 + 1, none⟩ = some (.int .i64 (l.ks.getD i 0)) ∧ w.cell? ⟨l.kb, i * 3 + 2, none⟩ = some (.string ⟨#[]⟩) := by
  have := flat_at l.ks i hi
  rw [h.keys.cellAt _ (by omega), h.keys.cellAt _ (by omega), h.keys.cellAt _ (by omega)]
  exact this
theorem cell_alloc {w : World} {a : Addr} {v : Value} (h : w.cell? a = some v) (o : Obj) : (w.alloc o).cell? a = some v :=
  (World.cell?_of_block (Below.heap_alloc w o a.block (World.block_lt_of_cell? w a h))).trans h
theorem Kp.cell {S : List Nat} {w w' : World} (h : Kp S w w') {a : Addr} {v : Value} (hc : w.cell? a = some v) (hs : a.block ∉ S) : w'.cell? a = some v :=
  (World.cell?_of_block (h.block a.block (World.block_lt_of_cell? w a hc) hs)).trans hc
/-- 'last' of leafOf. -/
theorem lastOf (N bx mb : Nat) (lv : Value) (near sh : Int) (L : List Leaf) (i : Nat) (l : Leaf) (hl : L[i]? = some l) (w : World) (hx : w.heap[bx]? = some (.cells #[P mb] 33)) (hm : w.heap[mb]? = some (.cells (MC lv near sh) 85)) (hL : Lvs N w lv L) :
    Calls Yba.prog 36 #[.int .i64 i, P bx] w fun e w' => e = .returned (V l.last) ∧ Kp [] w w' := by
  have hi : i < L.length := (List.getElem?_eq_some_iff.1 hl).1
  obtain ⟨lb, lc, rfl, hc1, hc2, _, ⟨cur, hcur⟩, hcell⟩ := hL.cell (by omega)
  have lo := hL.leaf l (List.mem_of_getElem? hl)
  have hpos := lo.pos
  have hfew := lo.few
  have hf := hL.few
  obtain ⟨x1, x2, x3⟩ := lo.key (l.ks.length - 1) (by omega)
  obtain ⟨lst, hlst⟩ : ∃ x, x = l.last := ⟨_, rfl⟩
  rw [← hlst]
  change lst = l.ks.getD (l.ks.length - 1) 0 at hlst
  rw [← hlst] at x2
  obtain ⟨n, hn⟩ : ∃ n, n = l.ks.length := ⟨_, rfl⟩
  obtain ⟨m, hm'⟩ : ∃ m, m = n - 1 := ⟨_, rfl⟩
  have kc0 := lo.blk
  rw [← hn] at x1 x2 x3 hpos hfew kc0
  rw [← hm'] at x1 x2 x3
  have c1 : w.cell? ⟨bx, 0, none⟩ = some (P mb) := by rw [cell_of hx]; rfl
  have c2 : w.cell? ⟨mb, 1, none⟩ = some (.slice (some ⟨lb, 0, none⟩) L.length lc) := by rw [cell_of hm]; rfl
  have c3 := hcell i l hl
  have c4 : w.cell? ⟨l.b, 0, none⟩ = some (.slice (some ⟨l.kb, 0, none⟩) n l.kc) := by rw [cell_of kc0]; rfl
  obtain ⟨M, hM⟩ : ∃ M, M = L.length := ⟨_, rfl⟩
  rw [← hM] at c2 hi hf
  have hnm : (n : Int) - 1 = m := by omega
  have hmn : m < n := by omega
  clear hL lo hcell hx hm hlst hn kc0 hm' hM hl hcur
  replace c1 := fun o => cell_alloc c1 o
  replace c2 := fun o => cell_alloc c2 o
  replace c3 := fun o => cell_alloc c3 o
  replace c4 := fun o => cell_alloc c4 o
  replace x1 := fun o => cell_alloc x1 o
  replace x2 := fun o => cell_alloc x2 o
  replace x3 := fun o => cell_alloc x3 o
  go_enter Yba.func36, Yba.ntmps36
  go_wp2
  simp [bodyPost, results, Yba.results36, go_sem]
  exact (Kp.refl _ _).alloc _
/-- find's closure. -/
theorem findAfter (b1 b2 mb : Nat) (k x : Int) (lv : Value) (near sh : Int) (w : World) (h1 : w.heap[b1]? = some (.cells #[P mb] 33)) (h2 : w.heap[b2]? = some (.cells (VC k) 44)) (hm : w.heap[mb]? = some (.cells (MC lv near sh) 85)) :
    Calls Yba.prog 44 #[V x, P b1, P b2] w fun e w' => e = .returned (.bool (decide (0 ≤ cmp3 x k))) ∧ Kp [] w w' := by
  obtain ⟨W, hW⟩ : ∃ W, W = w.alloc (.cells (VC x) 44) := ⟨_, rfl⟩
  obtain ⟨B, hB⟩ : ∃ B, B = w.heap.size := ⟨_, rfl⟩
  have hK : Kp [] w W := by rw [hW]; exact (Kp.refl _ _).alloc _
  have hb : W.heap[B]? = some (.cells (VC x) 44) := by rw [hW, hB]; exact heap_alloc_same _ _
  have c1 : W.cell? ⟨b1, 0, none⟩ = some (P mb) := by rw [cell_of (hK.at h1 (by simp))]; rfl
  have c2 : W.cell? ⟨mb, 0, none⟩ = some (.func (.func 23) #[] #[]) := by rw [cell_of (hK.at hm (by simp))]; rfl
  have k1 : W.cell? ⟨b2, 0, none⟩ = some (.int .u8 1) := by rw [cell_of (hK.at h2 (by simp))]; rfl
  have k2 : W.cell? ⟨b2, 1, none⟩ = some (.int .i64 k) := by rw [cell_of (hK.at h2 (by simp))]; rfl
  have k3 : W.cell? ⟨b2, 2, none⟩ = some (.string ⟨#[]⟩) := by rw [cell_of (hK.at h2 (by simp))]; rfl
  have j1 : W.cell? ⟨B, 0, none⟩ = some (.int .u8 1) := by rw [cell_of hb]; rfl
  have j2 : W.cell? ⟨B, 1, none⟩ = some (.int .i64 x) := by rw [cell_of hb]; rfl
  have j3 : W.cell? ⟨B, 2, none⟩ = some (.string ⟨#[]⟩) := by rw [cell_of hb]; rfl
  clear hb h1 h2 hm
  have H : ∀ w', Kp [] W w' → w'.cell? ⟨b1, 0, none⟩ = some (P mb) ∧ w'.cell? ⟨mb, 0, none⟩ = some (.func (.func 23) #[] #[]) ∧ w'.cell? ⟨b2, 0, none⟩ = some (.int .u8 1) ∧ w'.cell? ⟨b2, 1, none⟩ = some (.int .i64 k) ∧
      w'.cell? ⟨b2, 2, none⟩ = some (.string ⟨#[]⟩) ∧ w'.cell? ⟨B, 0, none⟩ = some (.int .u8 1) ∧ w'.cell? ⟨B, 1, none⟩ = some (.int .i64 x) ∧ w'.cell? ⟨B, 2, none⟩ = some (.string ⟨#[]⟩) := by
    intro w' h
    exact ⟨h.cell c1 (by simp), h.cell c2 (by simp), h.cell k1 (by simp), h.cell k2 (by simp), h.cell k3 (by simp), h.cell j1 (by simp), h.cell j2 (by simp), h.cell j3 (by simp)⟩
  clear c1 c2 k1 k2 k3 j1 j2 j3
  go_enter Yba.func44, Yba.ntmps44
  go_wp2_with fail
  rw [← hW, ← hB]
  clear hW hB
  go_region_held3 (fun w' => w'.cell? ⟨b1, 0, none⟩ = some (P mb) ∧ w'.cell? ⟨mb, 0, none⟩ = some (.func (.func 23) #[] #[]) ∧ w'.cell? ⟨b2, 0, none⟩ = some (.int .u8 1) ∧ w'.cell? ⟨b2, 1, none⟩ = some (.int .i64 k) ∧
      w'.cell? ⟨b2, 2, none⟩ = some (.string ⟨#[]⟩) ∧ w'.cell? ⟨B, 0, none⟩ = some (.int .u8 1) ∧ w'.cell? ⟨B, 1, none⟩ = some (.int .i64 x) ∧ w'.cell? ⟨B, 2, none⟩ = some (.string ⟨#[]⟩))
    (first | exact H _ (Kp.refl _ _).drew | exact H _ ((Kp.refl _ _).drew.trans hw2))
    (first | (go_at_call 23; refine (compare _ _ _).mono ?_; rintro e w2 ⟨rfl, hw2⟩))
  go_wp2
  go_ret
  exact ⟨rfl, hK.trans ((Kp.refl _ _).drew.trans hw2)⟩
/-- The cells of a Place in the primary index. -/
abbrev PlC (q pk : Int) : Array Value := #[.int .i64 0, .int .u8 1, .int .i64 q, .string ⟨#[]⟩, .int .u8 1, .int .i64 pk, .string ⟨#[]⟩]
/-- fromPlace's closure for the primary index. -/
theorem placeAfter (b1 b2 b3 : Nat) (q pk x : Int) (a : Bool) (w : World) (h1 : w.heap[b1]? = some (.cells #[.func (.func 20) #[] #[P b3]] 72)) (h2 : w.heap[b2]? = some (.cells (PlC q pk) 47)) (h3 : w.heap[b3]? = some (.cells #[.bool a] 4)) :
    Calls Yba.prog 22 #[V x, P b1, P b2] w fun e w' => e = .returned (.bool (st (cmp3 x q) a)) ∧ Kp [] w w' := by
  obtain ⟨W, hW⟩ : ∃ W, W = w.alloc (.cells (VC x) 44) := ⟨_, rfl⟩
  obtain ⟨B, hB⟩ : ∃ B, B = w.heap.size := ⟨_, rfl⟩
  have hK : Kp [] w W := by rw [hW]; exact (Kp.refl _ _).alloc _
  have hb : W.heap[B]? = some (.cells (VC x) 44) := by rw [hW, hB]; exact heap_alloc_same _ _
  have c1 : W.cell? ⟨b1, 0, none⟩ = some (.func (.func 20) #[] #[P b3]) := by rw [cell_of (hK.at h1 (by simp))]; rfl
  have k1 : W.cell? ⟨b2, 1, none⟩ = some (.int .u8 1) := by rw [cell_of (hK.at h2 (by simp))]; rfl
  have k2 : W.cell? ⟨b2, 2, none⟩ = some (.int .i64 q) := by rw [cell_of (hK.at h2 (by simp))]; rfl
  have k3 : W.cell? ⟨b2, 3, none⟩ = some (.string ⟨#[]⟩) := by rw [cell_of (hK.at h2 (by simp))]; rfl
  have j1 : W.cell? ⟨B, 0, none⟩ = some (.int .u8 1) := by rw [cell_of hb]; rfl
  have j2 : W.cell? ⟨B, 1, none⟩ = some (.int .i64 x) := by rw [cell_of hb]; rfl
  have j3 : W.cell? ⟨B, 2, none⟩ = some (.string ⟨#[]⟩) := by rw [cell_of hb]; rfl
  have h3' := hK.at h3 (by simp)
  clear hb h1 h2 h3
  have H : ∀ w', Kp [] W w' → w'.cell? ⟨b1, 0, none⟩ = some (.func (.func 20) #[] #[P b3]) ∧ w'.cell? ⟨b2, 1, none⟩ = some (.int .u8 1) ∧ w'.cell? ⟨b2, 2, none⟩ = some (.int .i64 q) ∧
      w'.cell? ⟨b2, 3, none⟩ = some (.string ⟨#[]⟩) ∧ w'.cell? ⟨B, 0, none⟩ = some (.int .u8 1) ∧ w'.cell? ⟨B, 1, none⟩ = some (.int .i64 x) ∧ w'.cell? ⟨B, 2, none⟩ = some (.string ⟨#[]⟩) := by
    intro w' h
    exact ⟨h.cell c1 (by simp), h.cell k1 (by simp), h.cell k2 (by simp), h.cell k3 (by simp), h.cell j1 (by simp), h.cell j2 (by simp), h.cell j3 (by simp)⟩
  clear c1 k1 k2 k3 j1 j2 j3
  go_enter Yba.func22, Yba.ntmps22
  go_wp2_with fail
  rw [← hW, ← hB]
  clear hW hB
  go_region_held3 (fun w' => w'.cell? ⟨b1, 0, none⟩ = some (.func (.func 20) #[] #[P b3]) ∧ w'.cell? ⟨b2, 1, none⟩ = some (.int .u8 1) ∧ w'.cell? ⟨b2, 2, none⟩ = some (.int .i64 q) ∧
      w'.cell? ⟨b2, 3, none⟩ = some (.string ⟨#[]⟩) ∧ w'.cell? ⟨B, 0, none⟩ = some (.int .u8 1) ∧ w'.cell? ⟨B, 1, none⟩ = some (.int .i64 x) ∧ w'.cell? ⟨B, 2, none⟩ = some (.string ⟨#[]⟩))
    (first | exact H _ (Kp.refl _ _).drew | exact H _ ((Kp.refl _ _).drew.trans hw2))
    (first | (go_at_call 23; refine (compare _ _ _).mono ?_; rintro e w2 ⟨rfl, hw2⟩) | (go_at_call 20; refine (starts b3 _ a _ (((Kp.refl _ _).drew.trans hw2).at h3' (by simp))).mono ?_; rintro e w3 ⟨rfl, rfl⟩))
  go_wp2
  go_ret
  exact ⟨rfl, hK.trans ((Kp.refl _ _).drew.trans hw2)⟩
end Go.Proofs.Ybulkcnom
