/-
  Seat b4471a, Forward and Back: the map behind an insertion: what the walks end with.
-/
import Derived.Test.YbulkcnomInsNil
namespace Go.Proofs.Ybulkcnom
open Go.RowKit
/-- A block that is none of the map's. -/
def Far (w W : World) (b : Nat) : Prop := w.heap.size ≤ b ∧ ∃ c t, W.heap[b]? = some (.cells c t) ∧ mapT t = false
theorem Far.ne {w W : World} {b x : Nat} {c : Array Value} {t : TypeId} (h : Far w W b) (hx : W.heap[x]? = some (.cells c t)) (ht : mapT t = true) : x ≠ b := by
  obtain ⟨_, c', t', hb, ht'⟩ := h
  refine ne_kind hx hb (fun e => ?_)
  rw [e, ht'] at ht
  cases ht
theorem fin_any {N mb : Nat} {sh k : Int} {v : Nat} {L1 L2 M : List Leaf} {lf : Leaf} {w W1 W6 : World} {lv lv' : Value} {near j : Nat} {S : List Nat}
    (hs : Srt (L1 ++ lf :: L2)) (hA : ∀ x ∈ keysOf L1 ++ lf.ks.take j, x < k) (hZ : ∀ x ∈ lf.ks.drop j ++ keysOf L2, k < x) (hbase : N ≤ mb)
    (hm : w.heap[mb]? = some (.cells (MC lv near sh) 85)) (hnear : near ≤ (L1 ++ lf :: L2).length) (hL : Lvs N w lv (L1 ++ lf :: L2)) (hK1 : Kp [mb] w W1)
    (hm1 : W1.heap[mb]? = some (.cells (MC lv near (sh + 1)) 85)) (hm6 : W6.heap[mb]? = some (.cells (MC lv' near (sh + 1)) 85)) (hk6 : Kp S W1 W6)
    (hS : ∀ b ∈ S, b = lf.b ∨ b = lf.kb ∨ b = lf.vb ∨ lv.ownBlock = some b ∨ b = mb ∨ Far w W1 b)
    (hM : ∀ m ∈ M, LeafOk N W6 m ∧ (m.b = lf.b ∨ W1.heap.size ≤ m.b) ∧ (m.kb = lf.kb ∨ W1.heap.size ≤ m.kb) ∧ (m.vb = lf.vb ∨ W1.heap.size ≤ m.vb))
    (nb : (M.map Leaf.b).Nodup) (nk : (M.map Leaf.kb).Nodup) (nv : (M.map Leaf.vb).Nodup)
    (row : W6.ownsRow N 82 1 lv' (L1 ++ (M ++ L2)).length ((L1 ++ (M ++ L2)).map fun l => P l.b)) (hlen : 1 ≤ M.length) (few : (keysOf (L1 ++ lf :: L2)).length < 300)
    (hks : keysOf M = lf.ks.take j ++ k :: lf.ks.drop j) (hvs : ∀ x ∈ valsOf M, x = v ∨ x ∈ lf.vs) : Ins N mb sh k v (L1 ++ lf :: L2) w W6 := by
  have hLv1 : Lvs N W1 lv (L1 ++ lf :: L2) := hL.kp hK1 (fun x hx => by
    simp at hx
    subst hx
    exact ⟨_, _, hm, by decide, by decide, by decide, by decide⟩)
  have hkL : keysOf (L1 ++ lf :: L2) = (keysOf L1 ++ lf.ks.take j) ++ (lf.ks.drop j ++ keysOf L2) := by
    rw [keysOf_append, keysOf_cons, List.append_assoc, ← List.append_assoc (lf.ks.take j), List.take_append_drop]
  have hkL' : keysOf (L1 ++ (M ++ L2)) = (keysOf L1 ++ lf.ks.take j) ++ k :: (lf.ks.drop j ++ keysOf L2) := by
    rw [keysOf_append, keysOf_append, hks]
    simp
  have hpos : ∀ l ∈ L1 ++ (M ++ L2), 0 < l.ks.length := by
    intro l hl
    have hl' : l ∈ M ∨ l ∈ L1 ++ lf :: L2 := by
      simp at hl ⊢
      rcases hl with h | h | h <;> simp [h]
    rcases hl' with h | h
    · exact (hM l h).1.pos
    · exact (hL.leaf l h).pos
  have few' : (L1 ++ (M ++ L2)).length ≤ 300 := by
    have h1 := length_le_keysOf hpos
    have h2 : (keysOf (L1 ++ (M ++ L2))).length = (keysOf (L1 ++ lf :: L2)).length + 1 := by
      rw [hkL, hkL']; simp; omega
    omega
  have hbl : ∀ b ∈ S, w.heap.size ≤ b ∨ (N ≤ b ∧ ∃ c t, w.heap[b]? = some (.cells c t) ∧ mapT t = true) := by
    intro b hb
    have lo := hL.leaf lf (by simp)
    rcases hS b hb with e | e | e | e | e | e
    · subst e; exact .inr ⟨lo.base, _, _, lo.blk, by decide⟩
    · obtain ⟨c, g, hN, _⟩ := ownsRow_blk lo.keys
      subst e; exact .inr ⟨hN, _, _, g, by decide⟩
    · obtain ⟨c, g, hN, _⟩ := ownsRow_blk lo.vals
      subst e; exact .inr ⟨hN, _, _, g, by decide⟩
    · rcases hL.row.2 with ⟨rfl, _⟩ | ⟨g, cap, cur, rfl, hN, hg, _⟩
      · simp [Value.ownBlock] at e
      · simp [Value.ownBlock] at e
        subst e; exact .inr ⟨hN, _, _, hg, by decide⟩
    · subst e; exact .inr ⟨hbase, _, _, hm, by decide⟩
    · exact .inl e.1
  refine Ins.mk hs hkL hA hZ ⟨hbase, lv', near, hm6, ?_, ?_⟩ hkL' ?_ ?_
  · simp at hnear ⊢; omega
  · refine hLv1.splice hk6 (fun b hb => ?_) hM nb nk nv row few'
    rcases hS b hb with e | e | e | e | e | e
    · exact .inl e
    · exact .inr (.inl e)
    · exact .inr (.inr (.inl e))
    · exact .inr (.inr (.inr (.inl e)))
    · subst e; exact .inr (.inr (.inr (.inr ⟨_, _, hm1, by decide, by decide, by decide⟩)))
    · obtain ⟨_, c, t, h, ht⟩ := e
      refine .inr (.inr (.inr (.inr ⟨c, t, h, ?_, ?_, ?_⟩))) <;> (intro e; subst e; simp [mapT] at ht)
  · intro x hx
    simp only [valsOf, List.flatMap_append, List.mem_append] at hx
    simp only [valsOf, List.flatMap_append, List.flatMap_cons, List.mem_append]
    rcases hx with h | h | h
    · exact .inr (.inl h)
    · rcases hvs x h with h | h
      · exact .inl h
      · exact .inr (.inr (.inl h))
    · exact .inr (.inr (.inr h))
  · refine Fr.of (S := mb :: S) ((hK1.mono (by simp)).trans (hk6.mono (by intro x hx; simp [hx]))) (fun b hb => ?_)
    rcases List.mem_cons.1 hb with e | e
    · subst e; exact .inr ⟨hbase, _, _, hm, by decide⟩
    · exact hbl b e
/-- The row of leaves as it was. -/
theorem row_same {N : Nat} {w W : World} {lv : Value} {L1 L2 : List Leaf} {lf m : Leaf} {S : List Nat} (h : w.ownsRow N 82 1 lv (L1 ++ lf :: L2).length ((L1 ++ lf :: L2).map fun l => P l.b)) (hk : Kp S w W)
    (hS : ∀ b ∈ S, lv.ownBlock ≠ some b) (hb : m.b = lf.b) : W.ownsRow N 82 1 lv (L1 ++ ([m] ++ L2)).length ((L1 ++ ([m] ++ L2)).map fun l => P l.b) := by
  have e1 : (L1 ++ ([m] ++ L2)).length = (L1 ++ lf :: L2).length := by simp
  have e2 : ((L1 ++ ([m] ++ L2)).map fun l => P l.b) = ((L1 ++ lf :: L2).map fun l => P l.b) := by simp [hb]
  rw [e1, e2]
  exact ownsRow_same h (fun g hg => hk.block g (h.lt g hg).2 (fun hm => hS g hm hg))
end Go.Proofs.Ybulkcnom
