/-
  Seat b4471a, Forward and Back: insert, whichever way it goes.
-/
import Derived.Test.YbulkcnomInsIn
import Derived.Test.YbulkcnomInsLast
import Derived.Test.YbulkcnomInsNew
import Derived.Test.YbulkcnomInsSplit
namespace Go.Proofs.Ybulkcnom
open Go.RowKit
theorem insert (N mb l i v : Nat) (sh k : Int) (L : List Leaf) (w : World) (hR : Rep N w mb sh L) (h0 : 0 ≤ sh) (h1 : sh < 100000) (hs : Srt L) (hPos : Pos (fun x => decide (0 ≤ cmp3 x k)) L l i) (hat : ¬ (atKey L l i = some k)) (few : (keysOf L).length < 300) :
    Calls Yba.prog 39 #[P mb, .agg (CC mb l i sh), V k, P v] w fun e w' => e = .returned (.tuple #[]) ∧ Ins N mb sh k v L w w' := by
  by_cases hL : L = []
  · subst hL
    exact insert_nil N mb l i v sh k w hR h0 h1
  · obtain ⟨L1, lf, L2, j, rfl, hj, hA, hZ, hw⟩ := place hL hs hPos hat
    have hfew : lf.ks.length ≤ 128 := by
      obtain ⟨_, _, _, _, h⟩ := hR.has
      exact (h.leaf lf (by simp)).few
    rcases hw with ⟨_, hl, hL2, rfl⟩ | ⟨_, hl, rfl, hi⟩
    · subst hl
      by_cases hr : lf.ks.length < 128
      · exact insert_last N mb i v sh k L1 L2 lf w hR h0 h1 hs hL2 hr few hA hZ
      · exact insert_new N mb i v sh k L1 L2 lf w hR h0 h1 hs hL2 (by omega) few hA hZ
    · by_cases hr : lf.ks.length < 128
      · exact insert_in N mb l i v sh k L1 L2 lf w hR h0 h1 hs hl hi hr few hA hZ
      · exact insert_split N mb l i v sh k L1 L2 lf w hR h0 h1 hs hl hi (by omega) few hA hZ
end Go.Proofs.Ybulkcnom
