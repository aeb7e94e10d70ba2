/-
  Seat b4471a, Forward and Back: Seek, for whatever 'after' that answers a p which holds of all behind one it holds of.
-/
import Derived.Test.YbulkcnomLeafOf
namespace Go.Proofs.Ybulkcnom
open Go.RowKit
attribute [local go_sem ↓] Go.wp_at_zero Go.wp_at_succ
/-- The keys ascend. -/
structure Srt (L : List Leaf) : Prop where
  own : ∀ l ∈ L, l.ks.Pairwise (· < ·)
  all : L.Pairwise fun a b => ∀ x ∈ a.ks, ∀ y ∈ b.ks, x < y
/-- (l, i) is the place of the first key that p holds of. -/
structure Pos (p : Int → Bool) (L : List Leaf) (l i : Nat) : Prop where
  le : l ≤ L.length
  lo : ∀ k (h : k < L.length), k < l → ∀ x ∈ L[k].ks, p x = false
  here : ∀ h : l < L.length, ∃ h' : i < L[l].ks.length, p L[l].ks[i] = true ∧ ∀ j (hj : j < L[l].ks.length), j < i → p L[l].ks[j] = false
  out : l = L.length → i = 0
abbrev CC (mb : Nat) (l i sh : Int) : Array Value := #[P mb, .int .i64 l, .int .i64 i, .int .u64 sh]
theorem Leaf.last_mem {l : Leaf} (h : 0 < l.ks.length) : l.last ∈ l.ks := by
  unfold Leaf.last
  rw [List.getD_eq_getElem?_getD, List.getElem?_eq_getElem (by omega)]
  simp
theorem le_last {l : Leaf} (hs : l.ks.Pairwise (· < ·)) (i : Nat) (hi : i < l.ks.length) : l.ks[i] ≤ l.last := by
  unfold Leaf.last
  rw [List.getD_eq_getElem?_getD, List.getElem?_eq_getElem (by omega)]
  simp only [Option.getD_some]
  by_cases h : i = l.ks.length - 1
  · subst h; exact Int.le_refl _
  · exact Int.le_of_lt (List.pairwise_iff_getElem.1 hs i (l.ks.length - 1) hi (by omega) (by omega))
theorem Srt.mono {L : List Leaf} (hs : Srt L) (hpos : ∀ l ∈ L, 0 < l.ks.length) {p : Int → Bool} (hp : ∀ x y, x ≤ y → p x = true → p y = true) :
    ∀ i j (hi : i < L.length) (hj : j < L.length), i ≤ j → p L[i].last = true → p L[j].last = true := by
  intro i j hi hj hij h
  by_cases e : i = j
  · subst e; exact h
  · have := List.pairwise_iff_getElem.1 hs.all i j hi hj (by omega) _ (Leaf.last_mem (hpos _ (List.getElem_mem hi))) _ (Leaf.last_mem (hpos _ (List.getElem_mem hj)))
    exact hp _ _ (Int.le_of_lt this) h
theorem LeafOk.key' {N : Nat} {w : World} {l : Leaf} (h : LeafOk N w l) (i : Nat) (hi : i < l.ks.length) : w.cell? ⟨l.kb, i * 3, none⟩ = some (.int .u8 1) ∧ w.cell? ⟨l.kb, i * 3 + 1, none⟩ = some (.int .i64 l.ks[i]) ∧ w.cell? ⟨l.kb, i * 3 + 2, none⟩ = some (.string ⟨#[]⟩) := by
  have := h.key i hi
  simpa [hi] using this
theorem Rep.kp {N mb : Nat} {sh : Int} {L : List Leaf} {w w' : World} (h : Rep N w mb sh L) {S : List Nat} (hk : Kp S w w') (hS : ∀ k ∈ S, ∃ c t, w.heap[k]? = some (.cells c t) ∧ t ≠ 82 ∧ t ≠ 81 ∧ t ≠ 44 ∧ t ≠ 49 ∧ t ≠ 85) : Rep N w' mb sh L := by
  obtain ⟨lv, near, hm, hn, hL⟩ := h.has
  refine ⟨h.base, lv, near, hk.at hm (fun hmem => ?_), hn, hL.kp hk (fun k hk => ?_)⟩
  · obtain ⟨c, t, h1, h2⟩ := hS _ hmem
    exact ne_kind h1 hm h2.2.2.2.2 rfl
  · obtain ⟨c, t, h1, h2⟩ := hS _ hk
    exact ⟨c, t, h1, h2.1, h2.2.1, h2.2.2.1, h2.2.2.2.1⟩
set_option maxRecDepth 20000 in
set_option maxHeartbeats 1600000 in
theorem seek (N mb : Nat) (sh : Int) (L : List Leaf) (fn : Nat) (caps : Array Value) (p : Int → Bool) (w : World) (hR : Rep N w mb sh L) (hA : After fn caps p mb sh w) (hs : Srt L) (hp : ∀ x y, x ≤ y → p x = true → p y = true) :
    Calls Yba.prog 14 #[P mb, .func (.func fn) #[] caps] w fun e w' => ∃ l i : Nat, e = .returned (.agg (CC mb l i sh)) ∧ Pos p L l i ∧ Kp [mb] w w' ∧ Rep N w' mb sh L := by
  obtain ⟨W, hW⟩ : ∃ W, W = w.alloc (.cells #[.pointer none, .int .i64 0, .int .i64 0, .int .u64 0] 35) := ⟨_, rfl⟩
  obtain ⟨B, hB⟩ : ∃ B, B = w.heap.size := ⟨_, rfl⟩
  have hK : Kp [] w W := by rw [hW]; exact (Kp.refl _ _).alloc _
  have hx : W.heap[B]? = some (.cells #[.pointer none, .int .i64 0, .int .i64 0, .int .u64 0] 35) := by rw [hW, hB]; exact heap_alloc_same _ _
  obtain ⟨lv0, near0, hm0, hnear0, hL0⟩ := hR.has
  have hRW : Rep N W mb sh L := ⟨hR.base, lv0, near0, hK.at hm0 (by simp), hnear0, hL0.kp hK (by simp)⟩
  have hAW : After fn caps p mb sh W := ⟨hA.1, fun w' h h2 x => hA.2 w' (hK.any.trans h) h2 x⟩
  have hpos : ∀ l ∈ L, 0 < l.ks.length := fun l hl => (hL0.leaf l hl).pos
  have hmbB : B ≠ mb := by have := lt_of hm0; omega
  have hC := leafOf N mb sh L fn caps p W hRW hAW (hs.mono hpos hp)
  have hbase := hR.base
  clear hm0 hL0 hR hRW hAW
  go_enter Yba.func14, Yba.ntmps14
  go_wp2_with fail
  rw [← hW]
  refine hC.mono ?_
  rintro e w1 ⟨l, rfl, hl1, hl2, hl3, hk1, hR1⟩
  rw [← hB]
  have hBw : w.heap.size ≤ B := Nat.le_of_eq hB.symm
  clear hC hW hB
  have hx1 := hk1.at hx (by simp [hmbB])
  obtain ⟨lv, near, hm, hnear, hL⟩ := hR1.has
  have few := hL.few
  obtain ⟨n, hn⟩ : ∃ n, n = L.length := ⟨_, rfl⟩
  obtain ⟨ao, cap, hlv⟩ : ∃ ao cap, lv = .slice ao n cap := by
    rcases hL.row.2 with ⟨h, h0⟩ | ⟨g, cap, cur, h, _⟩
    · exact ⟨none, 0, by rw [h, hn, h0]⟩
    · exact ⟨_, _, by rw [hn]; exact h⟩
  subst hlv
  have c2 : w1.cell? ⟨mb, 1, none⟩ = some (.slice ao n cap) := by rw [cell_of hm]; rfl
  have c3 : w1.cell? ⟨mb, 3, none⟩ = some (.int .u64 sh) := by rw [cell_of hm]; rfl
  have b0 : w1.cell? ⟨B, 0, none⟩ = some (.pointer none) := by rw [cell_of hx1]; rfl
  have b1 : w1.cell? ⟨B, 1, none⟩ = some (.int .i64 0) := by rw [cell_of hx1]; rfl
  have b2 : w1.cell? ⟨B, 2, none⟩ = some (.int .i64 0) := by rw [cell_of hx1]; rfl
  have b3 : w1.cell? ⟨B, 3, none⟩ = some (.int .u64 0) := by rw [cell_of hx1]; rfl
  have f : ∀ o, w1.frozen? ⟨B, o, none⟩ = false := fun o => frozen_of hx1
  have hn' : Hid (n = L.length) := hn
  rw [← hn] at few
  have FIN : Hid (∀ wr, Kp [] w1 wr → ∀ a b c d, Kp [mb] w ((((wr.setCell ⟨B, 0, none⟩ a).setCell ⟨B, 1, none⟩ b).setCell ⟨B, 2, none⟩ c).setCell ⟨B, 3, none⟩ d) ∧ Rep N ((((wr.setCell ⟨B, 0, none⟩ a).setCell ⟨B, 1, none⟩ b).setCell ⟨B, 2, none⟩ c).setCell ⟨B, 3, none⟩ d) mb sh L) := by
    intro wr h a b c d
    refine ⟨(((((hK.any.trans hk1).trans h.any).setCell (.inr hBw) _).setCell (.inr hBw) _).setCell (.inr hBw) _).setCell (.inr hBw) _, (hR1.kp h (by simp)).kp (S := [B]) (((((Kp.refl _ _).setCell (by simp) _).setCell (by simp) _).setCell (by simp) _).setCell (by simp) _) ?_⟩
    intro k hk
    simp at hk
    subst hk
    exact ⟨_, _, h.at hx1 (by simp), by decide, by decide, by decide, by decide, by decide⟩
  have lo : Hid (∀ k (h : k < L.length), k < l → ∀ x ∈ L[k].ks, p x = false) := by
    intro k h hk x hx
    obtain ⟨i, hi, rfl⟩ := List.getElem_of_mem hx
    have h1 := hl2 k h hk
    cases hb : p L[k].ks[i] with
    | false => rfl
    | true => rw [hp _ _ (le_last (hs.own _ (List.getElem_mem h)) i hi) hb] at h1; cases h1
  clear hl2
  by_cases hln : l = n
  · subst hln
    clear hn hl3
    go_wp2_with fail
    simp [bodyPost, results, Yba.results14, go_sem, b0, b1, b2, b3]
    have F := FIN.out w1 (Kp.refl _ _) (.pointer (some ⟨mb, 0, none⟩)) (.int .i64 l) (.int .i64 0) (.int .u64 sh)
    exact ⟨l, 0, ⟨rfl, rfl⟩, ⟨hl1, lo.out, fun h => by have := hn'.out; omega, fun _ => rfl⟩, F⟩
  · have hlt : l < L.length := by omega
    obtain ⟨lb, lc, hlv, hc1, hc2, _, ⟨cur, hcur⟩, hcell⟩ := hL.cell (by omega)
    obtain ⟨ll, hll⟩ : ∃ ll, ll = L[l] := ⟨_, rfl⟩
    have lok := hL.leaf ll (by rw [hll]; exact List.getElem_mem hlt)
    have c4 := hcell l ll (by rw [hll]; exact List.getElem?_eq_getElem hlt)
    have kpos := lok.pos
    have kfew := lok.few
    obtain ⟨m, hm'⟩ : ∃ m, m = ll.ks.length := ⟨_, rfl⟩
    have kb0 := lok.blk
    rw [← hm'] at kb0
    have c5 : w1.cell? ⟨ll.b, 0, none⟩ = some (.slice (some ⟨ll.kb, 0, none⟩) m ll.kc) := by rw [cell_of kb0]; rfl
    have hlast : p ll.last = true := by rw [hll]; exact hl3 hlt
    have hsrt := hs.own ll (by rw [hll]; exact List.getElem_mem hlt)
    have hkm : ∀ i j (hi : i < ll.ks.length) (hj : j < ll.ks.length), i ≤ j → p ll.ks[i] = true → p ll.ks[j] = true := by
      intro i j hi hj hij h
      by_cases e : i = j
      · subst e; exact h
      · exact hp _ _ (Int.le_of_lt (List.pairwise_iff_getElem.1 hsrt i j hi hj (by omega))) h
    have HM : Hid (∀ i j (hi : i < ll.ks.length) (hj : j < ll.ks.length), i ≤ j → p ll.ks[i] = true → p ll.ks[j] = true) := hkm
    have HKey : Hid (∀ wr, Kp [] w1 wr → ∀ i (hi : i < ll.ks.length), wr.cell? ⟨ll.kb, i * 3, none⟩ = some (.int .u8 1) ∧ wr.cell? ⟨ll.kb, i * 3 + 1, none⟩ = some (.int .i64 ll.ks[i]) ∧ wr.cell? ⟨ll.kb, i * 3 + 2, none⟩ = some (.string ⟨#[]⟩)) := by
      intro wr h i hi
      obtain ⟨k1, k2, k3⟩ := lok.key' i hi
      exact ⟨h.cell k1 (by simp), h.cell k2 (by simp), h.cell k3 (by simp)⟩
    have HA : ∀ w' x, Kp [] w1 w' → Calls Yba.prog fn (#[V x] ++ caps) w' fun e w'' => e = .returned (.bool (p x)) ∧ Kp [] w1 w'' := by
      intro w' x h
      exact (hA.2 w' ((hK.any.trans hk1).trans h.any) ⟨_, _, h.at hm (by simp)⟩ x).mono fun e w'' ⟨h1, h2⟩ => ⟨h1, h.trans h2⟩
    have hrun := hA.1
    simp only [Value.slice.injEq] at hlv
    obtain ⟨rfl, _, rfl⟩ := hlv
    have hln3 : ((l : Int) == (L.length : Int)) = false := by simp; omega
    have hln2 : l < L.length := by omega
    rw [← hm'] at kpos kfew
    have HLast : Hid (p ll.last = true) := hlast
    have hm2 : Hid (m = ll.ks.length) := hm'
    have hLl : Hid (ll = L[l]) := hll
    clear hn hl3 hkm hlast hsrt lok hcell hcur kb0 hm' hll hA hs hp
    go_wp2_with fail
    go_loopg [7, 8] m (fun g s7 s8 wx => ∃ i j : Nat, i ≤ j ∧ j ≤ m ∧ g = j - i ∧ s7 = .int .i64 i ∧ s8 = .int .i64 j ∧ Kp [] w1 wx ∧ (∀ k (h : k < ll.ks.length), k < i → p ll.ks[k] = false) ∧ (∀ k (h : k < ll.ks.length), j ≤ k → p ll.ks[k] = true))
    case atStart => exact ⟨0, m, Nat.zero_le _, Nat.le_refl _, rfl, rfl, rfl, Kp.refl _ _, fun k h h' => absurd h' (by omega), fun k h h' => by have := hm2.out; omega⟩
    case round =>
      obtain ⟨i, j, hij, hjn, rfl, rfl, rfl, hkw, hlo, hhi⟩ := hrel
      have hlo' : Hid (∀ k (h : k < ll.ks.length), k < i → p ll.ks[k] = false) := hlo
      have hhi' : Hid (∀ k (h : k < ll.ks.length), j ≤ k → p ll.ks[k] = true) := hhi
      clear hlo hhi
      by_cases hlt : i < j
      · have hhL : (i + j) / 2 < ll.ks.length := by have := hm2.out; omega
        obtain ⟨k1, k2, k3⟩ := HKey.out wr hkw _ hhL
        obtain ⟨v, hv⟩ : ∃ v, v = p ll.ks[(i + j) / 2] := ⟨_, rfl⟩
        have hv' : Hid (v = p ll.ks[(i + j) / 2]) := hv
        obtain ⟨x, hx⟩ : ∃ x, x = ll.ks[(i + j) / 2] := ⟨_, rfl⟩
        rw [← hx] at hv k2
        clear hx
        obtain ⟨h, hh⟩ : ∃ h, h = (i + j) / 2 := ⟨_, rfl⟩
        have hhz : ((i : Int) + j) / 2 = h := by omega
        have hhm : h < m := by omega
        rw [← hh] at k1 k2 k3
        have hh' : Hid (h = (i + j) / 2) := hh
        clear hh
        go_wp2_with fail
        refine (HA wr x hkw).mono ?_
        rintro e w2 ⟨rfl, hkw2⟩
        rw [← hv]
        clear hv
        cases v
        · go_wp2_with fail
          go_roundg (j - (h + 1))
          case measure => omega
          case rel =>
            refine ⟨h + 1, j, by omega, hjn, rfl, by simp, rfl, hkw2, fun k hk1 hk => ?_, hhi'.out⟩
            have h2 := hv'.out
            have he := hh'.out
            cases hb : p ll.ks[k] with
            | false => rfl
            | true => rw [HM.out k ((i + j) / 2) hk1 hhL (by omega) hb] at h2; cases h2
        · go_wp2_with fail
          go_roundg (h - i)
          case measure => have he := hh'.out; omega
          case rel =>
            have he := hh'.out
            refine ⟨i, h, by omega, by omega, rfl, rfl, rfl, hkw2, hlo'.out, fun k hk1 hk => ?_⟩
            exact HM.out ((i + j) / 2) k hhL hk1 (by omega) hv'.out.symm
      · obtain rfl : i = j := by omega
        have d3 : wr.cell? ⟨mb, 3, none⟩ = some (.int .u64 sh) := hkw.cell c3 (by simp)
        have e0 : wr.cell? ⟨B, 0, none⟩ = some (.pointer none) := hkw.cell b0 (by simp)
        have e1 : wr.cell? ⟨B, 1, none⟩ = some (.int .i64 0) := hkw.cell b1 (by simp)
        have e2 : wr.cell? ⟨B, 2, none⟩ = some (.int .i64 0) := hkw.cell b2 (by simp)
        have e3 : wr.cell? ⟨B, 3, none⟩ = some (.int .u64 0) := hkw.cell b3 (by simp)
        have f' : ∀ o, wr.frozen? ⟨B, o, none⟩ = false := fun o => frozen_of (hkw.at hx1 (by simp))
        have F := FIN.out wr hkw (.pointer (some ⟨mb, 0, none⟩)) (.int .i64 l) (.int .i64 i) (.int .u64 sh)
        have HF : Hid (Kp [mb] w ((((wr.setCell ⟨B, 0, none⟩ (.pointer (some ⟨mb, 0, none⟩))).setCell ⟨B, 1, none⟩ (.int .i64 l)).setCell ⟨B, 2, none⟩ (.int .i64 i)).setCell ⟨B, 3, none⟩ (.int .u64 sh)) ∧ Rep N ((((wr.setCell ⟨B, 0, none⟩ (.pointer (some ⟨mb, 0, none⟩))).setCell ⟨B, 1, none⟩ (.int .i64 l)).setCell ⟨B, 2, none⟩ (.int .i64 i)).setCell ⟨B, 3, none⟩ (.int .u64 sh)) mb sh L) := F
        clear F b0 b1 b2 b3 f c3 c2
        go_wp2_with fail
        simp [bodyPost, results, Yba.results14, go_sem, e0, e1, e2, e3]
        have hm3 := hm2.out
        have hlast := HLast.out
        have hpos := kpos
        have hi : i < ll.ks.length := by
          rcases Nat.lt_or_ge i ll.ks.length with h | h
          · exact h
          · have h1 := hlo'.out (ll.ks.length - 1) (by omega) (by omega)
            unfold Leaf.last at hlast
            rw [List.getD_eq_getElem?_getD, List.getElem?_eq_getElem (by omega)] at hlast
            simp only [Option.getD_some] at hlast
            rw [h1] at hlast
            cases hlast
        have hle := hLl.out
        subst hle
        exact ⟨l, i, ⟨rfl, rfl⟩, ⟨hl1, lo.out, fun h => ⟨hi, hhi'.out i hi (Nat.le_refl _), fun j hj hji => hlo'.out j hj hji⟩, fun h => absurd h (by omega)⟩, HF.out⟩
end Go.Proofs.Ybulkcnom
