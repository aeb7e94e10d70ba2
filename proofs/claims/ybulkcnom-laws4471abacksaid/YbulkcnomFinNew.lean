/-
  Seat b4471a, Forward and Back: the map behind an insertion that has made a leaf.
-/
import Derived.Test.YbulkcnomUntil
namespace Go.Proofs.Ybulkcnom
open Go.RowKit
theorem fin_new {N mb : Nat} {sh k : Int} {v : Nat} {L1 : List Leaf} {lf : Leaf} {w W1 Y : World} {near lb lc LL g cap kB vB rB : Nat}
    (hs : Srt (L1 ++ [lf])) (hA : ∀ x ∈ keysOf L1 ++ lf.ks.take lf.ks.length, x < k) (hbase : N ≤ mb) (hLL : LL = (L1 ++ [lf]).length)
    (hm : w.heap[mb]? = some (.cells (MC (.slice (some ⟨lb, 0, none⟩) LL lc) near sh) 85)) (hnear : near ≤ (L1 ++ [lf]).length) (hL : Lvs N w (.slice (some ⟨lb, 0, none⟩) LL lc) (L1 ++ [lf])) (hK1 : Kp [mb] w W1)
    (hm1 : W1.heap[mb]? = some (.cells (MC (.slice (some ⟨lb, 0, none⟩) LL lc) near (sh + 1)) 85)) (kY : Kp [lb] W1 Y)
    (bk : Y.heap[kB]? = some (.cells (VC k) 44)) (bv : Y.heap[vB]? = some (.cells #[P v] 49)) (br : Y.heap[rB]? = some (.cells #[.slice (some ⟨kB, 0, none⟩) 1 1, .slice (some ⟨vB, 0, none⟩) 1 1] 81))
    (sk : W1.heap.size ≤ kB) (sv : W1.heap.size ≤ vB) (sr : W1.heap.size ≤ rB)
    (hown : Y.ownsRow N 82 1 (.slice (some ⟨g, 0, none⟩) (LL + 1) cap) (LL + 1) (((L1 ++ [lf]).map fun l => P l.b) ++ [P rB])) (few : (keysOf (L1 ++ [lf])).length < 300) :
    Ins N mb sh k v (L1 ++ [lf]) w (Y.setCell ⟨mb, 1, none⟩ (.slice (some ⟨g, 0, none⟩) (LL + 1) cap)) := by
  have hrow := hL.row
  rw [← hLL] at hrow
  obtain ⟨lcur, hlb, _⟩ := ownsRow_blk hrow
  have lo := hL.leaf lf (by simp)
  obtain ⟨kc, hkb, _⟩ := ownsRow_blk lo.keys
  obtain ⟨vc, hvb, _⟩ := ownsRow_blk lo.vals
  have q1 : mb ≠ lb := ne_kind hm hlb (by decide)
  have s1 := hK1.size
  have lmb := lt_of hm
  obtain ⟨gc, hgc, _⟩ := ownsRow_blk hown
  have hmY := kY.at hm1 (by simpa using q1)
  have hgm : g ≠ mb := fun e => ne_kind hgc hmY (by decide) e
  have far : ∀ x, x ≠ mb → (Y.setCell ⟨mb, 1, none⟩ (.slice (some ⟨g, 0, none⟩) (LL + 1) cap)).heap[x]? = Y.heap[x]? := fun x hx => Below.heap_setCell _ _ _ _ (by simpa using hx)
  have old : ∀ x c t, w.heap[x]? = some (.cells c t) → x ≠ mb → x ≠ lb → (Y.setCell ⟨mb, 1, none⟩ (.slice (some ⟨g, 0, none⟩) (LL + 1) cap)).heap[x]? = w.heap[x]? := by
    intro x c t hx h1 h2
    rw [far x h1, kY.block x (by have := lt_of hx; omega) (by simpa using h2), hK1.block x (lt_of hx) (by simpa using h1)]
  have lo6 : LeafOk N (Y.setCell ⟨mb, 1, none⟩ (.slice (some ⟨g, 0, none⟩) (LL + 1) cap)) lf :=
    lo.same (old _ _ _ lo.blk (ne_kind lo.blk hm (by decide)) (ne_kind lo.blk hlb (by decide))) (old _ _ _ hkb (ne_kind hkb hm (by decide)) (ne_kind hkb hlb (by decide))) (old _ _ _ hvb (ne_kind hvb hm (by decide)) (ne_kind hvb hlb (by decide)))
  refine fin_any (M := [lf, ⟨rB, kB, 1, vB, 1, [k], [v]⟩]) (S := [mb, lb]) (L2 := []) (j := lf.ks.length) hs hA (by simp [keysOf]) hbase hm hnear hL hK1 hm1 (heap_setCell_same' _ hmY) ((kY.mono (by simp)).setCell (by simp) _) ?_ ?_ ?_ ?_ ?_ ?_ (by simp) few (by simp [keysOf]) ?_
  · intro b hb
    simp at hb
    rcases hb with e | e
    · subst e; exact .inr (.inr (.inr (.inr (.inl rfl))))
    · subst e; exact .inr (.inr (.inr (.inl rfl)))
  · intro m hm'
    simp at hm'
    rcases hm' with e | e
    · subst e; exact ⟨lo6, .inl rfl, .inl rfl, .inl rfl⟩
    · subst e
      refine ⟨⟨by show N ≤ rB; omega, ?_, ?_, ?_, by simp, by simp⟩, .inr sr, .inr sk, .inr sv⟩
      · show (Y.setCell ⟨mb, 1, none⟩ (.slice (some ⟨g, 0, none⟩) (LL + 1) cap)).heap[rB]? = _
        rw [far rB (by omega)]; exact br
      · exact ⟨by simp [flat], .inr ⟨kB, 1, _, rfl, by omega, (far kB (by omega)).trans bk, by simp, by decide, by simp, by simp [flat]⟩⟩
      · exact ⟨by simp, .inr ⟨vB, 1, _, rfl, by omega, (far vB (by omega)).trans bv, by simp, by decide, by simp, by simp⟩⟩
  · have := lt_of lo.blk
    simp; omega
  · have := lt_of hkb
    simp; omega
  · have := lt_of hvb
    simp; omega
  · have e1 : (L1 ++ ([lf, (⟨rB, kB, 1, vB, 1, [k], [v]⟩ : Leaf)] ++ [])).length = LL + 1 := by rw [hLL]; simp
    have e2 : ((L1 ++ ([lf, (⟨rB, kB, 1, vB, 1, [k], [v]⟩ : Leaf)] ++ [])).map fun l : Leaf => P l.b) = ((L1 ++ [lf]).map fun l => P l.b) ++ [P rB] := by simp
    rw [e1, e2]
    exact ownsRow_same hown (fun x hx => by simp [Value.ownBlock] at hx; subst hx; exact far _ hgm)
  · intro x hx
    simp [valsOf] at hx
    rcases hx with h | h
    · exact .inr h
    · exact .inl h
end Go.Proofs.Ybulkcnom
