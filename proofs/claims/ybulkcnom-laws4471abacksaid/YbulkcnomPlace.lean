/-
  Seat b4471a, Forward and Back: the place of a new key; the leaves behind an insertion.
-/
import Derived.Test.YbulkcnomFind
import Derived.Test.YbulkcnomInsAt
namespace Go.Proofs.Ybulkcnom
open Go.RowKit
def valsOf (L : List Leaf) : List Nat := L.flatMap Leaf.vs
/-- What an insertion leaves. -/
def Ins (N mb : Nat) (sh k : Int) (v : Nat) (L : List Leaf) (w w' : World) : Prop :=
  ∃ L', Rep N w' mb (sh + 1) L' ∧ Srt L' ∧ (∀ x, x ∈ keysOf L' ↔ x = k ∨ x ∈ keysOf L) ∧ (keysOf L').length = (keysOf L).length + 1 ∧ (∀ x ∈ valsOf L', x = v ∨ x ∈ valsOf L) ∧ Fr N w w'
theorem Ins.mk {N mb : Nat} {sh k : Int} {v : Nat} {L L' : List Leaf} {w w' : World} {A B : List Int} (hs : Srt L) (h : keysOf L = A ++ B) (ha : ∀ x ∈ A, x < k) (hb : ∀ x ∈ B, k < x)
    (hR : Rep N w' mb (sh + 1) L') (h' : keysOf L' = A ++ k :: B) (hv : ∀ x ∈ valsOf L', x = v ∨ x ∈ valsOf L) (hf : Fr N w w') : Ins N mb sh k v L w w' := by
  refine ⟨L', hR, srt_insert hs h h' ha hb, fun x => ?_, ?_, hv, hf⟩
  · rw [h, h']
    simp
    constructor
    · rintro (h | h | h) <;> simp [h]
    · rintro (h | h | h) <;> simp [h]
  · rw [h, h']
    simp
    omega
theorem lt_of_ge {x k : Int} (h : decide (0 ≤ cmp3 x k) = false) : x < k := by
  rw [ge_cmp] at h
  simpa using h
theorem place {L : List Leaf} {k : Int} {l i : Nat} (hL : L ≠ []) (hs : Srt L) (hPos : Pos (fun x => decide (0 ≤ cmp3 x k)) L l i) (hat : ¬ (atKey L l i = some k)) :
    ∃ L1 lf L2 j, L = L1 ++ lf :: L2 ∧ j ≤ lf.ks.length ∧ (∀ x ∈ keysOf L1 ++ lf.ks.take j, x < k) ∧ (∀ x ∈ lf.ks.drop j ++ keysOf L2, k < x) ∧
      ((l = L.length ∧ l = L1.length + 1 ∧ L2 = [] ∧ j = lf.ks.length) ∨ (l < L.length ∧ l = L1.length ∧ i = j ∧ j < lf.ks.length)) := by
  have hle := hPos.le
  by_cases hl : l < L.length
  · obtain ⟨hi, hp, hlo⟩ := hPos.here hl
    have hk : k < L[l].ks[i] := by
      have h1 : k ≤ L[l].ks[i] := by
        have hp' : decide (0 ≤ cmp3 L[l].ks[i] k) = true := hp
        rw [ge_cmp] at hp'
        simpa using hp'
      have h2 : L[l].ks[i] ≠ k := fun e => hat (by simp [atKey, List.getElem?_eq_getElem hl, List.getElem?_eq_getElem hi, e])
      omega
    refine ⟨L.take l, L[l], L.drop (l + 1), i, ?_, by omega, ?_, ?_, .inr ⟨hl, by simp; omega, rfl, hi⟩⟩
    · rw [← List.drop_eq_getElem_cons hl, List.take_append_drop]
    · intro x hx
      rcases List.mem_append.1 hx with hx | hx
      · obtain ⟨lf, hlf, hx⟩ := List.mem_flatMap.1 hx
        obtain ⟨j, hj, rfl⟩ := List.mem_iff_getElem.1 hlf
        simp at hj
        rw [List.getElem_take] at hx
        exact lt_of_ge (hPos.lo j (by omega) (by omega) x hx)
      · obtain ⟨j, hj, rfl⟩ := List.mem_iff_getElem.1 hx
        simp at hj
        rw [List.getElem_take]
        exact lt_of_ge (hlo j (by omega) (by omega))
    · intro x hx
      rcases List.mem_append.1 hx with hx | hx
      · obtain ⟨j, hj, rfl⟩ := List.mem_iff_getElem.1 hx
        simp at hj
        rw [List.getElem_drop]
        by_cases h0 : j = 0
        · subst h0; simpa using hk
        · have := List.pairwise_iff_getElem.1 (hs.own _ (List.getElem_mem hl)) i (i + j) hi (by omega) (by omega)
          omega
      · obtain ⟨lf, hlf, hx⟩ := List.mem_flatMap.1 hx
        obtain ⟨j, hj, rfl⟩ := List.mem_iff_getElem.1 hlf
        simp at hj
        rw [List.getElem_drop] at hx
        have := List.pairwise_iff_getElem.1 hs.all l (l + 1 + j) hl (by omega) (by omega) _ (List.getElem_mem hi) x hx
        omega
  · have hlL : l = L.length := by omega
    refine ⟨L.dropLast, L.getLast hL, [], (L.getLast hL).ks.length, (List.dropLast_concat_getLast hL).symm, Nat.le_refl _, ?_, by simp [keysOf], .inl ⟨hlL, ?_, rfl, rfl⟩⟩
    · intro x hx
      rw [List.take_length] at hx
      have hx' : x ∈ keysOf L := by
        have e : L = L.dropLast ++ [L.getLast hL] := (List.dropLast_concat_getLast hL).symm
        rw [e, keysOf_append, keysOf_cons]
        simpa [keysOf] using hx
      obtain ⟨lf, hlf, hx⟩ := List.mem_flatMap.1 hx'
      obtain ⟨j, hj, rfl⟩ := List.mem_iff_getElem.1 hlf
      exact lt_of_ge (hPos.lo j hj (by omega) x hx)
    · have : 0 < L.length := List.length_pos_iff.2 hL
      simp
      omega
theorem flat_take (ks : List Int) (j : Nat) : flat (ks.take j) = (flat ks).take (j * 3) := by
  induction ks generalizing j with
  | nil => simp [flat]
  | cons x xs ih =>
    cases j with
    | zero => simp [flat]
    | succ j => rw [List.take_succ_cons, flat_cons, flat_cons, ih, show (j + 1) * 3 = j * 3 + 3 by omega]; rfl
theorem flat_drop (ks : List Int) (j : Nat) : flat (ks.drop j) = (flat ks).drop (j * 3) := by
  induction ks generalizing j with
  | nil => simp [flat]
  | cons x xs ih =>
    cases j with
    | zero => simp
    | succ j => rw [List.drop_succ_cons, flat_cons, ih, show (j + 1) * 3 = j * 3 + 3 by omega]; rfl
theorem flat_one (ks : List Int) : ∀ u ∈ flat ks, u.oneCell' = true := by
  intro u hu
  obtain ⟨x, _, hu⟩ := List.mem_flatMap.1 hu
  simp at hu
  rcases hu with rfl | rfl | rfl <;> rfl
theorem ptrs_one (vs : List Nat) : ∀ u ∈ vs.map P, u.oneCell' = true := by
  intro u hu
  obtain ⟨x, _, rfl⟩ := List.mem_map.1 hu
  rfl
theorem flat_ins (ks : List Int) (k : Int) (j : Nat) : (flat ks).take (j * 3) ++ ((VC k).toList ++ (flat ks).drop (j * 3)) = flat (ks.take j ++ k :: ks.drop j) := by
  rw [flat_append, flat_cons, flat_take, flat_drop]
  rfl
theorem ptrs_ins (vs : List Nat) (v j : Nat) : (vs.map P).take j ++ P v :: (vs.map P).drop j = (vs.take j ++ v :: vs.drop j).map P := by simp
/-- A leaf with a key more. -/
def Leaf.plus (lf : Leaf) (g c g' c' j : Nat) (k : Int) (v : Nat) : Leaf := ⟨lf.b, g, c, g', c', lf.ks.take j ++ k :: lf.ks.drop j, lf.vs.take j ++ v :: lf.vs.drop j⟩
theorem plus_length (ks : List Int) (k : Int) (j : Nat) (hj : j ≤ ks.length) : (ks.take j ++ k :: ks.drop j).length = ks.length + 1 := by simp; omega
/-- A leaf's two rows and its block as they are behind two 'insertAt's. -/
theorem LeafOk.put {N : Nat} {w1 w2 w3 : World} {lf : Leaf} {n j : Nat} {k : Int} {v g c g' c' : Nat} (hn : lf.ks.length = n) (hj : j ≤ n) (few : n < 128) (hb : N ≤ lf.b)
    (o1 : w1.ownsRow N 44 3 (.slice (some ⟨g, 0, none⟩) (n + 1) c) (n + 1) ((flat lf.ks).take (j * 3) ++ ((VC k).toList ++ (flat lf.ks).drop (j * 3))))
    (o2 : w2.ownsRow N 49 1 (.slice (some ⟨g', 0, none⟩) (n + 1) c') (n + 1) ((lf.vs.map P).take j ++ P v :: (lf.vs.map P).drop j))
    (e0 : w3.heap[lf.b]? = some (.cells #[.slice (some ⟨g, 0, none⟩) ((n + 1 : Nat)) c, .slice (some ⟨g', 0, none⟩) ((n + 1 : Nat)) c'] 81)) (e1 : w3.heap[g]? = w1.heap[g]?) (e2 : w3.heap[g']? = w2.heap[g']?) : LeafOk N w3 (lf.plus g c g' c' j k v) := by
  subst hn
  have hl := plus_length lf.ks k j hj
  refine ⟨hb, ?_, ?_, ?_, ?_, ?_⟩
  · show w3.heap[lf.b]? = some (.cells #[.slice (some ⟨g, 0, none⟩) ((lf.ks.take j ++ k :: lf.ks.drop j).length) c, .slice (some ⟨g', 0, none⟩) ((lf.ks.take j ++ k :: lf.ks.drop j).length) c'] 81)
    rw [hl]; exact e0
  · show w3.ownsRow N 44 3 (.slice (some ⟨g, 0, none⟩) ((lf.ks.take j ++ k :: lf.ks.drop j).length) c) (lf.ks.take j ++ k :: lf.ks.drop j).length (flat (lf.ks.take j ++ k :: lf.ks.drop j))
    rw [hl, ← flat_ins]
    exact ownsRow_same o1 (fun x hx => by simp [Value.ownBlock] at hx; subst hx; exact e1)
  · show w3.ownsRow N 49 1 (.slice (some ⟨g', 0, none⟩) ((lf.ks.take j ++ k :: lf.ks.drop j).length) c') (lf.ks.take j ++ k :: lf.ks.drop j).length ((lf.vs.take j ++ v :: lf.vs.drop j).map P)
    rw [hl, ← ptrs_ins]
    exact ownsRow_same o2 (fun x hx => by simp [Value.ownBlock] at hx; subst hx; exact e2)
  · show 0 < (lf.ks.take j ++ k :: lf.ks.drop j).length
    omega
  · show (lf.ks.take j ++ k :: lf.ks.drop j).length ≤ 128
    omega
end Go.Proofs.Ybulkcnom
