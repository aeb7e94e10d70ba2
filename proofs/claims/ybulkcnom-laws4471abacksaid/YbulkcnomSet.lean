/-
  Seat b4471a, Forward and Back: Set.
-/
import Derived.Test.YbulkcnomGet
import Derived.Test.YbulkcnomFin
import Derived.Deep.RegionHeld3
namespace Go.Proofs.Ybulkcnom
open Go.RowKit
attribute [local go_sem ↓] Go.wp_at_zero Go.wp_at_succ
/-- What a Set leaves. -/
def Sets (N mb : Nat) (sh k : Int) (v : Nat) (L : List Leaf) (w w' : World) : Prop :=
  ∃ L' sh', Rep N w' mb sh' L' ∧ Srt L' ∧ sh ≤ sh' ∧ sh' ≤ sh + 1 ∧ (∀ x, x ∈ keysOf L' ↔ x = k ∨ x ∈ keysOf L) ∧ (keysOf L').length ≤ (keysOf L).length + 1 ∧ (∀ x ∈ valsOf L', x = v ∨ x ∈ valsOf L) ∧ Fr N w w'
def InsertSaid : Prop := ∀ (N mb l i v : Nat) (sh k : Int) (L : List Leaf) (w : World), Rep N w mb sh L → 0 ≤ sh → sh < 100000 → Srt L → Pos (fun x => decide (0 ≤ cmp3 x k)) L l i → ¬ (atKey L l i = some k) → (keysOf L).length < 300 →
    Calls Yba.prog 39 #[P mb, .agg (CC mb l i sh), V k, P v] w fun e w' => e = .returned (.tuple #[]) ∧ Ins N mb sh k v L w w'
/-- A leaf with another value. -/
def Leaf.val (lf : Leaf) (i v : Nat) : Leaf := ⟨lf.b, lf.kb, lf.kc, lf.vb, lf.vc, lf.ks, lf.vs.set i v⟩
theorem set_fin {N mb l i v : Nat} {sh k : Int} {L : List Leaf} {w W wr : World} (hR : Rep N W mb sh L) (hs : Srt L) (hl : l < L.length) (hk : atKey L l i = some k) (kw : Kp [mb] w W) (kr : Kp [] W wr) (hmb : ∃ c, w.heap[mb]? = some (.cells c 85)) (hold : ∀ x ∈ L, ∃ c, w.heap[x.vb]? = some (.cells c 49) ∧ N ≤ x.vb) :
    Sets N mb sh k v L w (wr.setCell ⟨L[l].vb, i, none⟩ (P v)) := by
  have hRr := hR.kp kr (by simp)
  obtain ⟨lv, near, hm, hnear, hL⟩ := hRr.has
  have hsp : L = L.take l ++ L[l] :: L.drop (l + 1) := by rw [← List.drop_eq_getElem_cons hl, List.take_append_drop]
  obtain ⟨lf, hlf⟩ : ∃ lf, lf = L[l] := ⟨_, rfl⟩
  rw [← hlf] at hsp ⊢
  have lo := hL.leaf lf (by rw [hlf]; exact List.getElem_mem hl)
  obtain ⟨vc, zv, _⟩ := ownsRow_blk lo.vals
  obtain ⟨kc, zk, _⟩ := ownsRow_blk lo.keys
  have zb := lo.blk
  have K1 : Kp [lf.vb] wr (wr.setCell ⟨lf.vb, i, none⟩ (P v)) := (Kp.refl _ _).setCell (by simp) _
  have lo' : LeafOk N (wr.setCell ⟨lf.vb, i, none⟩ (P v)) (lf.val i v) := by
    refine ⟨lo.base, ?_, ?_, ?_, lo.pos, lo.few⟩
    · exact K1.at zb (by simp; exact ne_kind zb zv (by decide))
    · exact ownsRow_same lo.keys (fun x hx => by simp [Value.ownBlock] at hx; subst hx; exact K1.block _ (lt_of zk) (by simp; exact ne_kind zk zv (by decide)))
    · have := (lo.vals.stored i (P v)).1
      show (wr.setCell ⟨lf.vb, i, none⟩ (P v)).ownsRow N 49 1 (.slice (some ⟨lf.vb, 0, none⟩) lf.ks.length lf.vc) lf.ks.length ((lf.vs.set i v).map P)
      rwa [← List.map_set] at this
  have hL0 : Lvs N wr lv (L.take l ++ lf :: L.drop (l + 1)) := by rw [← hsp]; exact hL
  obtain ⟨L', hL'⟩ : ∃ L', L' = L.take l ++ ([lf.val i v] ++ L.drop (l + 1)) := ⟨_, rfl⟩
  have hk' : keysOf L' = keysOf L := by
    have h2 : keysOf L = keysOf (L.take l ++ lf :: L.drop (l + 1)) := by rw [← hsp]
    rw [hL', h2, keysOf_append, keysOf_append, keysOf_append, keysOf_cons, keysOf_cons]
    simp [Leaf.val, keysOf]
  have hlen : L'.length = L.length := by
    have h2 : L.length = (L.take l ++ lf :: L.drop (l + 1)).length := by rw [← hsp]
    rw [hL', h2]; simp
  have hLv : Lvs N (wr.setCell ⟨lf.vb, i, none⟩ (P v)) lv L' := by
    rw [hL']
    refine hL0.splice K1 (by simp) (by simp; exact ⟨lo', .inl rfl, .inl rfl, .inl rfl⟩) (by simp) (by simp) (by simp) ?_ (by rw [← hL', hlen]; exact hL.few)
    refine row_same hL0.row K1 ?_ rfl
    intro b hb e
    simp at hb
    subst hb
    rcases hL.row.2 with ⟨rfl, _⟩ | ⟨g, cap, cur, rfl, _, hg, _⟩
    · simp [Value.ownBlock] at e
    · simp [Value.ownBlock] at e
      exact ne_kind hg zv (by decide) e
  have hmem : k ∈ keysOf L := by
    have : L[l].ks[i]? = some k := by simpa [atKey, List.getElem?_eq_getElem hl] using hk
    exact List.mem_flatMap.2 ⟨L[l], List.getElem_mem hl, List.mem_of_getElem? this⟩
  obtain ⟨cm, hmw⟩ := hmb
  obtain ⟨cv, hvw, hNv⟩ := hold lf (by rw [hlf]; exact List.getElem_mem hl)
  refine ⟨L', sh, ⟨hRr.base, lv, near, K1.at hm (by simp; exact ne_kind hm zv (by decide)), by omega, hLv⟩, ?_, Int.le_refl _, by omega, fun x => ?_, by rw [hk']; omega, ?_, ?_⟩
  · rw [srt_iff, hk', ← srt_iff]; exact hs
  · rw [hk']
    constructor
    · exact .inr
    · rintro (rfl | h)
      · exact hmem
      · exact h
  · intro x hx
    rw [hL'] at hx
    have hvL : valsOf L = valsOf (L.take l ++ lf :: L.drop (l + 1)) := by rw [← hsp]
    rw [hvL]
    simp only [valsOf, List.flatMap_append, List.flatMap_cons, List.flatMap_nil, List.append_nil, List.mem_append, Leaf.val] at hx ⊢
    rcases hx with h | h | h
    · exact .inr (.inl h)
    · rcases List.mem_or_eq_of_mem_set h with h | h
      · exact .inr (.inr (.inl h))
      · exact .inl h
    · exact .inr (.inr (.inr h))
  · refine Fr.of (S := [mb, lf.vb]) (((kw.mono (by simp)).trans kr.any).setCell (by simp) _) (fun b hb => ?_)
    simp at hb
    rcases hb with rfl | rfl
    · exact .inr ⟨hRr.base, _, _, hmw, by decide⟩
    · exact .inr ⟨hNv, _, _, hvw, by decide⟩
theorem Rep.old {N mb : Nat} {sh : Int} {L : List Leaf} {w : World} (h : Rep N w mb sh L) : (∃ c, w.heap[mb]? = some (.cells c 85)) ∧ ∀ x ∈ L, ∃ c, w.heap[x.vb]? = some (.cells c 49) ∧ N ≤ x.vb := by
  obtain ⟨lv, near, hm, _, hL⟩ := h.has
  refine ⟨⟨_, hm⟩, fun x hx => ?_⟩
  obtain ⟨c, z, hN, _⟩ := ownsRow_blk (hL.leaf x hx).vals
  exact ⟨c, z, hN⟩
set_option maxRecDepth 20000 in
set_option maxHeartbeats 1600000 in
theorem set_ (hIn : InsertSaid) (N mb v : Nat) (sh k : Int) (L : List Leaf) (w : World) (hR : Rep N w mb sh L) (hs : Srt L) (h0 : 0 ≤ sh) (h1 : sh < 100000) (few : (keysOf L).length < 300) :
    Calls Yba.prog 30 #[P mb, V k, P v] w fun e w' => (∃ a, e = .returned (.bool a)) ∧ Sets N mb sh k v L w w' := by
  obtain ⟨W, hW⟩ : ∃ W, W = w.alloc (.cells (VC k) 44) := ⟨_, rfl⟩
  obtain ⟨B, hB⟩ : ∃ B, B = w.heap.size := ⟨_, rfl⟩
  have hK : Kp [] w W := by rw [hW]; exact (Kp.refl _ _).alloc _
  have hRW := hR.kp hK (by simp)
  have hC := find N mb sh k L W hRW hs
  have x0 : W.heap[B]? = some (.cells (VC k) 44) := by rw [hW, hB]; exact heap_alloc_same _ _
  have c0 : W.cell? ⟨B, 0, none⟩ = some (.int .u8 1) := by rw [cell_of x0]; rfl
  have c1 : W.cell? ⟨B, 1, none⟩ = some (.int .i64 k) := by rw [cell_of x0]; rfl
  have c2 : W.cell? ⟨B, 2, none⟩ = some (.string ⟨#[]⟩) := by rw [cell_of x0]; rfl
  obtain ⟨om, ov⟩ := hR.old
  have hmbB : mb ≠ B := by obtain ⟨c, h⟩ := om; have := lt_of h; omega
  have Hmb := hR.base
  go_enter Yba.func30, Yba.ntmps30
  go_upto_region 1 with fail
  rw [← hW, ← hB]
  clear hW hB
  go_wp2_with fail
  refine hC.mono ?_
  rintro e w1 ⟨l, i, rfl, hPos, hk1, hR1⟩
  have x0' := hk1.at x0 (by simp; exact hmbB.symm)
  clear hC x0 c0 c1 c2
  obtain ⟨C, hCs⟩ : ∃ C, C = w1.heap.size := ⟨_, rfl⟩
  obtain ⟨W2, hW2⟩ : ∃ W2, W2 = w1.alloc (.cells (CC mb l i sh) 35) := ⟨_, rfl⟩
  have x1 : W2.heap[C]? = some (.cells (CC mb l i sh) 35) := by rw [hW2]; exact heap_alloc_at _ _ hCs
  have hk2 : Kp [] w1 W2 := by rw [hW2]; exact (Kp.refl _ _).alloc _
  have hR2 : Rep N W2 mb sh L := hR1.kp hk2 (by simp)
  have x2 := hk2.at x0' (by simp)
  have kk : Kp [mb] w W2 := (hK.any.trans hk1).trans hk2.any
  by_cases hat : atKey L l i = some k
  · have hl : l < L.length := by
      rcases Nat.lt_or_ge l L.length with h | h
      · exact h
      · simp [atKey, List.getElem?_eq_none h] at hat
    obtain ⟨hi, _, _⟩ := hPos.here hl
    obtain ⟨lb, lc, e1, e2, e3, e4, e5, e6, _, _, _, e7, e8⟩ := hR2.entry l i hl hi
    obtain ⟨vo, _, e9⟩ := hR2.val l i hl hi
    have H : ∀ w', Kp [] W2 w' → w'.cell? ⟨mb, 1, none⟩ = some (.slice (some ⟨lb, 0, none⟩) L.length lc) ∧ w'.cell? ⟨C, 1, none⟩ = some (.int .i64 l) ∧ w'.cell? ⟨lb, l, none⟩ = some (P L[l].b) ∧ w'.cell? ⟨L[l].b, 1, none⟩ = some (.slice (some ⟨L[l].vb, 0, none⟩) L[l].ks.length L[l].vc) ∧ w'.cell? ⟨C, 2, none⟩ = some (.int .i64 i) := by
      intro w' h
      exact ⟨h.cell e1 (by simp), by rw [cell_of (h.at x1 (by simp))]; rfl, h.cell e4 (by simp), h.cell e6 (by simp), by rw [cell_of (h.at x1 (by simp))]; rfl⟩
    have FIN : Hid (∀ wr, Kp [] W2 wr → Sets N mb sh k v L w (wr.setCell ⟨L[l].vb, i, none⟩ (P v))) := fun wr h => set_fin hR2 hs hl hat kk h om ov
    obtain ⟨lv, near, hm, _, hLv⟩ := hR2.has
    obtain ⟨vcur, zv, _⟩ := ownsRow_blk (hLv.leaf L[l] (List.getElem_mem hl)).vals
    have zb := (hLv.leaf L[l] (List.getElem_mem hl)).blk
    have zlb : ∃ c, W2.heap[lb]? = some (.cells c 82) := by
      obtain ⟨lb', lc', hlv, _, _, _, ⟨c, hc⟩, _⟩ := hLv.cell (by omega)
      have : W2.cell? ⟨mb, 1, none⟩ = some lv := by rw [cell_of hm]; rfl
      rw [this, hlv] at e1
      simp at e1
      rw [← e1.1]
      exact ⟨c, hc⟩
    obtain ⟨lbc, zlb⟩ := zlb
    obtain ⟨n, hn⟩ : ∃ n, n = L[l].ks.length := ⟨_, rfl⟩
    obtain ⟨vb, hvb⟩ : ∃ vb, vb = L[l].vb := ⟨_, rfl⟩
    obtain ⟨lfb, hlfb⟩ : ∃ b, b = L[l].b := ⟨_, rfl⟩
    obtain ⟨vc, hvc⟩ : ∃ b, b = L[l].vc := ⟨_, rfl⟩
    obtain ⟨LL, hLL⟩ : ∃ n, n = L.length := ⟨_, rfl⟩
    rw [← hn] at H hi e8
    rw [← hvb] at H FIN zv e9
    rw [← hlfb] at H zb
    rw [← hvc] at H
    rw [← hLL] at H hl e2 e7
    have q1 : mb ≠ vb := ne_kind hm zv (by decide)
    have q2 : C ≠ vb := ne_kind x1 zv (by decide)
    have q3 : lb ≠ vb := ne_kind zlb zv (by decide)
    have q4 : lfb ≠ vb := ne_kind zb zv (by decide)
    have H2 : ∀ w' x, Kp [] W2 w' → (w'.setCell ⟨vb, i, none⟩ x).cell? ⟨mb, 1, none⟩ = some (.slice (some ⟨lb, 0, none⟩) LL lc) ∧ (w'.setCell ⟨vb, i, none⟩ x).cell? ⟨C, 1, none⟩ = some (.int .i64 l) ∧ (w'.setCell ⟨vb, i, none⟩ x).cell? ⟨lb, l, none⟩ = some (P lfb) ∧ (w'.setCell ⟨vb, i, none⟩ x).cell? ⟨lfb, 1, none⟩ = some (.slice (some ⟨vb, 0, none⟩) n vc) ∧ (w'.setCell ⟨vb, i, none⟩ x).cell? ⟨C, 2, none⟩ = some (.int .i64 i) := by
      intro w' x h
      obtain ⟨s1, s2, s3, s4, s5⟩ := H w' h
      have hk : Kp [vb] w' (w'.setCell ⟨vb, i, none⟩ x) := (Kp.refl _ _).setCell (by simp) _
      exact ⟨hk.cell s1 (by simp; exact q1), hk.cell s2 (by simp; exact q2), hk.cell s3 (by simp; exact q3), hk.cell s4 (by simp; exact q4), hk.cell s5 (by simp; exact q2)⟩
    have i1 : (l : Int) < (LL : Int) := by omega
    have i2 : (i : Int) < (n : Int) := by omega
    have f9 : W2.frozen? ⟨vb, i, none⟩ = false := frozen_of zv
    rw [decide_eq_true hat]
    clear hPos hR1 hat hk1 hR hRW e1 e4 e5 e6 zb zv hm hLv zlb x1 hn hvb hlfb hvc hLL x2 x0' hR2 hs
    go_upto_region 3 with fail
    rw [← hW2, ← hCs]
    clear hW2 hCs
    go_region_held3 (fun w' => w'.cell? ⟨mb, 1, none⟩ = some (.slice (some ⟨lb, 0, none⟩) LL lc) ∧ w'.cell? ⟨C, 1, none⟩ = some (.int .i64 l) ∧ w'.cell? ⟨lb, l, none⟩ = some (P lfb) ∧ w'.cell? ⟨lfb, 1, none⟩ = some (.slice (some ⟨vb, 0, none⟩) n vc) ∧ w'.cell? ⟨C, 2, none⟩ = some (.int .i64 i))
      (first | exact H _ (Kp.refl _ _).drew | exact H2 W2 _ (Kp.refl _ _)) (fail)
    have F := FIN.out W2.drew (Kp.refl _ _).drew
    go_wp2_with fail
    go_ret
    exact ⟨⟨_, rfl⟩, F⟩
  · have few2 := few
    have hCI := hIn N mb l i v sh k L W2 hR2 h0 h1 hs hPos hat few2
    have FIN : Hid (∀ w', Ins N mb sh k v L W2 w' → Sets N mb sh k v L w w') := by
      rintro w' ⟨L', a1, a2, a3, a4, a5, a6⟩
      obtain ⟨c, hc⟩ := om
      refine ⟨L', sh + 1, a1, a2, by omega, Int.le_refl _, a3, by omega, a5, (Fr.of kk ?_).trans a6⟩
      simp
      exact .inr ⟨Hmb, _, _, hc, by decide⟩
    have b5 : W2.cell? ⟨C, 0, none⟩ = some (P mb) := by rw [cell_of x1]; rfl
    have b6 : W2.cell? ⟨C, 1, none⟩ = some (.int .i64 l) := by rw [cell_of x1]; rfl
    have b7 : W2.cell? ⟨C, 2, none⟩ = some (.int .i64 i) := by rw [cell_of x1]; rfl
    have b8 : W2.cell? ⟨C, 3, none⟩ = some (.int .u64 sh) := by rw [cell_of x1]; rfl
    have d0 : W2.cell? ⟨B, 0, none⟩ = some (.int .u8 1) := by rw [cell_of x2]; rfl
    have d1 : W2.cell? ⟨B, 1, none⟩ = some (.int .i64 k) := by rw [cell_of x2]; rfl
    have d2 : W2.cell? ⟨B, 2, none⟩ = some (.string ⟨#[]⟩) := by rw [cell_of x2]; rfl
    rw [decide_eq_false hat]
    clear hPos hR1 hat hk1 hR hRW x1 x2 x0' hR2 hs
    go_upto_region 5 with fail
    rw [← hW2, ← hCs]
    clear hW2 hCs
    go_wp2_with fail
    refine hCI.mono ?_
    rintro e w3 ⟨rfl, hI⟩
    have F := FIN.out w3 hI
    clear hI
    go_wp2_with fail
    go_ret
    exact ⟨⟨_, rfl⟩, F⟩
end Go.Proofs.Ybulkcnom
