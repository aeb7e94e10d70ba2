/-
  Seat b4471a, Forward and Back: lists behind a split.
-/
import Derived.Test.YbulkcnomSplitLaws
namespace Go.Proofs.Ybulkcnom
open Go.RowKit
theorem row_split (L1 L2 : List Leaf) (lf m1 m2 : Leaf) (rb : Nat) (h1 : m1.b = lf.b) (h2 : m2.b = rb) : ((L1 ++ ([m1, m2] ++ L2)).map fun l : Leaf => P l.b) = ((L1 ++ lf :: L2).map fun l : Leaf => P l.b).take (L1.length + 1) ++ P rb :: ((L1 ++ lf :: L2).map fun l : Leaf => P l.b).drop (L1.length + 1) := by
  have e : L1 ++ lf :: L2 = (L1 ++ [lf]) ++ L2 := by simp
  have e2 : ((L1 ++ [lf]) ++ L2).map (fun l : Leaf => P l.b) = (L1 ++ [lf]).map (fun l : Leaf => P l.b) ++ L2.map (fun l : Leaf => P l.b) := List.map_append
  rw [e, e2, List.take_left' (by simp), List.drop_left' (by simp)]
  simp [h1, h2]
theorem split_left {α : Type} (ks : List α) (k : α) (i : Nat) (hi : i ≤ 64) : ((ks.take 64).take i ++ k :: (ks.take 64).drop i) ++ ks.drop 64 = ks.take i ++ k :: ks.drop i := by
  rw [List.take_take, Nat.min_eq_left hi, List.append_assoc, List.cons_append]
  congr 2
  have : ks.drop i = (ks.take 64 ++ ks.drop 64).drop i := by rw [List.take_append_drop]
  rw [this, List.drop_append]
  by_cases h : 64 ≤ ks.length
  · rw [show i - (ks.take 64).length = 0 by simp; omega]; simp
  · have : ks.drop 64 = [] := List.drop_eq_nil_of_le (by omega)
    simp [this]
theorem split_right {α : Type} (ks : List α) (k : α) (i j : Nat) (h : i = j + 64) : ks.take 64 ++ ((ks.drop 64).take j ++ k :: (ks.drop 64).drop j) = ks.take i ++ k :: ks.drop i := by
  subst h
  rw [List.drop_drop, ← List.append_assoc]
  have e : ks.take (j + 64) = ks.take 64 ++ (ks.drop 64).take j := by
    rw [Nat.add_comm, List.take_add]
  rw [e, Nat.add_comm 64 j]
theorem fin_split {N mb B : Nat} {sh k : Int} {v : Nat} {L1 L2 : List Leaf} {lf l1 l2 tl : Leaf} {w W1 U6 U10 : World} {near lb lc LL g cap rb gk ck gv cv l' i j g1 c1 g2 c2 : Nat} {b : Bool} {c0 : Array Value}
    (hs : Srt (L1 ++ lf :: L2)) (hA : ∀ x ∈ keysOf L1 ++ lf.ks.take i, x < k) (hZ : ∀ x ∈ lf.ks.drop i ++ keysOf L2, k < x) (hbase : N ≤ mb) (hLL : LL = (L1 ++ lf :: L2).length) (hl' : l' = L1.length + 1)
    (hm : w.heap[mb]? = some (.cells (MC (.slice (some ⟨lb, 0, none⟩) LL lc) near sh) 85)) (hnear : near ≤ (L1 ++ lf :: L2).length) (hL : Lvs N w (.slice (some ⟨lb, 0, none⟩) (L1 ++ lf :: L2).length lc) (L1 ++ lf :: L2)) (hK1 : Kp [mb] w W1)
    (hm1 : W1.heap[mb]? = some (.cells (MC (.slice (some ⟨lb, 0, none⟩) LL lc) near (sh + 1)) 85)) (few : (keysOf (L1 ++ lf :: L2)).length < 300)
    (el1 : l1 = ⟨lf.b, lf.kb, lf.kc, lf.vb, lf.vc, lf.ks.take 64, lf.vs.take 64⟩) (el2 : l2 = ⟨rb, gk, ck, gv, cv, lf.ks.drop 64, lf.vs.drop 64⟩) (htl : tl = cond b l1 l2) (hbj : (b = true ∧ j = i ∧ i ≤ 64) ∨ (b = false ∧ i = j + 64))
    (hm6 : U6.heap[mb]? = some (.cells (MC (.slice (some ⟨g, 0, none⟩) (LL + 1) cap) near (sh + 1)) 85)) (row6 : U6.ownsRow N 82 1 (.slice (some ⟨g, 0, none⟩) (LL + 1) cap) (LL + 1) (((L1 ++ lf :: L2).map fun l : Leaf => P l.b).take l' ++ P rb :: ((L1 ++ lf :: L2).map fun l : Leaf => P l.b).drop l'))
    (kW6 : Kp [lf.kb, lf.vb, lf.b, lb, mb, B] W1 U6) (hW1s : W1.heap.size = B + 2) (hBw : w.heap.size ≤ B) (y0 : W1.heap[B]? = some (.cells c0 35)) (ok1 : LeafOk N U6 l1) (ok2 : LeafOk N U6 l2) (k10 : Kp [tl.kb, tl.b, tl.vb] U6 U10)
    (okP : LeafOk N U10 (tl.plus g1 c1 g2 c2 j k v)) (hg1 : g1 = tl.kb ∨ U6.heap.size ≤ g1) (hg2 : g2 = tl.vb ∨ U6.heap.size ≤ g2) (p1 : lf.b < B) (p2 : lf.kb < B) (p3 : lf.vb < B) (r1 : B + 2 ≤ rb) (r2 : B + 2 ≤ gk) (r3 : B + 2 ≤ gv) :
    Ins N mb sh k v (L1 ++ lf :: L2) w U10 := by
  have s6 := kW6.size
  obtain ⟨_, kz1, _⟩ := ownsRow_blk ok1.keys
  obtain ⟨_, kz2, _⟩ := ownsRow_blk ok2.keys
  obtain ⟨_, vz1, _⟩ := ownsRow_blk ok1.vals
  obtain ⟨_, vz2, _⟩ := ownsRow_blk ok2.vals
  have bz1 := ok1.blk
  have bz2 := ok2.blk
  obtain ⟨_, gz, _⟩ := ownsRow_blk row6
  have t1 := lt_of kz2
  have t2 := lt_of vz2
  have t3 := lt_of bz2
  subst hLL
  subst hl'
  have hrow : ∀ m1 m2 : Leaf, m1.b = lf.b → m2.b = rb → U10.heap[g]? = U6.heap[g]? → U10.ownsRow N 82 1 (.slice (some ⟨g, 0, none⟩) ((L1 ++ lf :: L2).length + 1) cap) (L1 ++ ([m1, m2] ++ L2)).length ((L1 ++ ([m1, m2] ++ L2)).map fun l : Leaf => P l.b) := by
    intro m1 m2 h1 h2 hg
    have e1 : (L1 ++ ([m1, m2] ++ L2)).length = (L1 ++ lf :: L2).length + 1 := by simp; omega
    rw [e1, row_split L1 L2 lf m1 m2 rb h1 h2]
    exact ownsRow_same row6 (fun x hx => by simp [Value.ownBlock] at hx; subst hx; exact hg)
  have hSS : ∀ x ∈ [lf.kb, lf.vb, lf.b, lb, mb, B], x = lf.b ∨ x = lf.kb ∨ x = lf.vb ∨ (Value.slice (some ⟨lb, 0, none⟩) (L1 ++ lf :: L2).length lc).ownBlock = some x ∨ x = mb ∨ Far w W1 x := by
    intro x hx
    simp at hx
    rcases hx with e | e | e | e | e | e
    · simp [e]
    · simp [e]
    · simp [e]
    · subst e; exact .inr (.inr (.inr (.inl rfl)))
    · simp [e]
    · subst e; exact .inr (.inr (.inr (.inr (.inr ⟨hBw, _, _, y0, by decide⟩))))
  rcases hbj with ⟨rfl, rfl, h64⟩ | ⟨rfl, hij⟩
  · have et : tl = l1 := htl
    subst et
    have a1 : tl.b = lf.b := by rw [el1]
    have a2 : tl.kb = lf.kb := by rw [el1]
    have a3 : tl.vb = lf.vb := by rw [el1]
    have b1 : l2.b = rb := by rw [el2]
    have b2 : l2.kb = gk := by rw [el2]
    have b3 : l2.vb = gv := by rw [el2]
    rw [b2] at t1
    rw [b3] at t2
    rw [b1] at t3
    have ok2' : LeafOk N U10 l2 := ok2.same (k10.block _ (lt_of bz2) (by simp; omega)) (k10.block _ (lt_of kz2) (by simp; omega)) (k10.block _ (lt_of vz2) (by simp; omega))
    refine fin_any (M := [tl.plus g1 c1 g2 c2 j k v, l2]) (S := [lf.kb, lf.vb, lf.b, lb, mb, B]) (j := j) hs hA hZ hbase hm hnear hL hK1 hm1 (k10.at hm6 (by simp; exact ⟨ne_kind hm6 kz1 (by decide), ne_kind hm6 bz1 (by decide), ne_kind hm6 vz1 (by decide)⟩)) (kW6.trans (k10.mono (by simp; exact ⟨.inl a2, .inr (.inr (.inl a1)), .inr (.inl a3)⟩))) hSS ?_ ?_ ?_ ?_ (hrow _ _ a1 b1 (k10.block _ (lt_of gz) (by simp; exact ⟨ne_kind gz kz1 (by decide), ne_kind gz bz1 (by decide), ne_kind gz vz1 (by decide)⟩))) (by simp) few ?_ ?_
    · intro m hm'
      simp at hm'
      rcases hm' with e | e
      · subst e
        exact ⟨okP, .inl a1, by show g1 = lf.kb ∨ _ ≤ g1; omega, by show g2 = lf.vb ∨ _ ≤ g2; omega⟩
      · subst e
        exact ⟨ok2', .inr (by omega), .inr (by omega), .inr (by omega)⟩
    · simp; show tl.b ≠ l2.b; omega
    · simp; show g1 ≠ l2.kb; omega
    · simp; show g2 ≠ l2.vb; omega
    · rw [keysOf_cons, keysOf_cons]
      show ((tl.ks.take j ++ k :: tl.ks.drop j)) ++ (l2.ks ++ keysOf []) = _
      rw [el1, el2]
      simp only [keysOf, List.flatMap_nil, List.append_nil]
      exact split_left _ _ _ h64
    · intro x hx
      simp only [valsOf, List.flatMap_cons, List.flatMap_nil, List.append_nil, Leaf.plus, List.mem_append, List.mem_cons] at hx
      rw [el1, el2] at hx
      rcases hx with (h | h | h) | h
      · exact .inr (List.mem_of_mem_take (List.mem_of_mem_take h))
      · exact .inl h
      · exact .inr (List.mem_of_mem_take (List.mem_of_mem_drop h))
      · exact .inr (List.mem_of_mem_drop h)
  · have et : tl = l2 := htl
    subst et
    have a1 : l1.b = lf.b := by rw [el1]
    have a2 : l1.kb = lf.kb := by rw [el1]
    have a3 : l1.vb = lf.vb := by rw [el1]
    have b1 : tl.b = rb := by rw [el2]
    have b2 : tl.kb = gk := by rw [el2]
    have b3 : tl.vb = gv := by rw [el2]
    have ok1' : LeafOk N U10 l1 := ok1.same (k10.block _ (lt_of bz1) (by simp; omega)) (k10.block _ (lt_of kz1) (by simp; omega)) (k10.block _ (lt_of vz1) (by simp; omega))
    refine fin_any (M := [l1, tl.plus g1 c1 g2 c2 j k v]) (S := [lf.kb, lf.vb, lf.b, lb, mb, B]) (j := i) hs hA hZ hbase hm hnear hL hK1 hm1 (k10.at hm6 (by simp; exact ⟨ne_kind hm6 kz2 (by decide), ne_kind hm6 bz2 (by decide), ne_kind hm6 vz2 (by decide)⟩)) (kW6.new k10 (by simp; omega)) hSS ?_ ?_ ?_ ?_ (hrow _ _ a1 b1 (k10.block _ (lt_of gz) (by simp; exact ⟨ne_kind gz kz2 (by decide), ne_kind gz bz2 (by decide), ne_kind gz vz2 (by decide)⟩))) (by simp) few ?_ ?_
    · intro m hm'
      simp at hm'
      rcases hm' with e | e
      · subst e
        exact ⟨ok1', .inl a1, .inl a2, .inl a3⟩
      · subst e
        exact ⟨okP, .inr (by show _ ≤ tl.b; omega), .inr (by show _ ≤ g1; omega), .inr (by show _ ≤ g2; omega)⟩
    · simp; show l1.b ≠ tl.b; omega
    · simp; show l1.kb ≠ g1; omega
    · simp; show l1.vb ≠ g2; omega
    · rw [keysOf_cons, keysOf_cons]
      show l1.ks ++ ((tl.ks.take j ++ k :: tl.ks.drop j) ++ keysOf []) = _
      rw [el1, el2]
      simp only [keysOf, List.flatMap_nil, List.append_nil]
      exact split_right _ _ _ _ hij
    · intro x hx
      simp only [valsOf, List.flatMap_cons, List.flatMap_nil, List.append_nil, Leaf.plus, List.mem_append, List.mem_cons] at hx
      rw [el1, el2] at hx
      rcases hx with h | h | h | h
      · exact .inr (List.mem_of_mem_take h)
      · exact .inr (List.mem_of_mem_drop (List.mem_of_mem_take h))
      · exact .inl h
      · exact .inr (List.mem_of_mem_drop (List.mem_of_mem_drop h))
end Go.Proofs.Ybulkcnom
