/-
  Seat b4471a, Forward and Back: the keys of all leaves; leaves in the place of a leaf; what a writer may have turned ('Fr').
-/
import Derived.Test.YbulkcnomCursor
namespace Go.Proofs.Ybulkcnom
open Go.RowKit
/-- All keys, in order. -/
def keysOf (L : List Leaf) : List Int := L.flatMap Leaf.ks
theorem keysOf_append (A B : List Leaf) : keysOf (A ++ B) = keysOf A ++ keysOf B := by simp [keysOf]
theorem keysOf_cons (a : Leaf) (B : List Leaf) : keysOf (a :: B) = a.ks ++ keysOf B := by simp [keysOf]
theorem srt_iff (L : List Leaf) : Srt L ↔ (keysOf L).Pairwise (· < ·) := by
  unfold keysOf
  rw [List.pairwise_flatMap]
  exact ⟨fun h => ⟨h.own, h.all⟩, fun h => ⟨h.1, h.2⟩⟩
theorem length_le_keysOf {L : List Leaf} (h : ∀ l ∈ L, 0 < l.ks.length) : L.length ≤ (keysOf L).length := by
  induction L with
  | nil => simp [keysOf]
  | cons a B ih =>
    have h1 := h a (by simp)
    have h2 := ih (fun l hl => h l (by simp [hl]))
    rw [keysOf_cons]
    simp
    omega
/-- k put in between. -/
theorem srt_insert {L L' : List Leaf} {A B : List Int} {k : Int} (hs : Srt L) (h : keysOf L = A ++ B) (h' : keysOf L' = A ++ k :: B) (ha : ∀ x ∈ A, x < k) (hb : ∀ x ∈ B, k < x) : Srt L' := by
  rw [srt_iff] at hs ⊢
  rw [h, List.pairwise_append] at hs
  rw [h', List.pairwise_append, List.pairwise_cons]
  refine ⟨hs.1, ⟨hb, hs.2.1⟩, fun x hx y hy => ?_⟩
  rcases List.mem_cons.1 hy with rfl | hy
  · exact ha x hx
  · exact hs.2.2 x hx y hy
theorem nodup_splice {α : Type} (f : Leaf → α) {L1 L2 M : List Leaf} {lf : Leaf} (h : ((L1 ++ lf :: L2).map f).Nodup) (hM : (M.map f).Nodup) (hn : ∀ m ∈ M, f m = f lf ∨ ∀ x ∈ L1 ++ lf :: L2, f x ≠ f m) : ((L1 ++ (M ++ L2)).map f).Nodup := by
  simp only [List.map_append, List.map_cons, List.nodup_append, List.nodup_cons, List.mem_map, List.mem_append, List.mem_cons] at h hM hn ⊢
  obtain ⟨h1, ⟨h2, h3⟩, h4⟩ := h
  refine ⟨h1, ⟨hM, h3, ?_⟩, ?_⟩
  · rintro a ⟨m, hm, rfl⟩ b ⟨x, hx, rfl⟩ e
    rcases hn m hm with h | h
    · exact h2 ⟨x, hx, by rw [← e, h]⟩
    · exact h x (.inr (.inr hx)) e.symm
  · rintro a ⟨x, hx, rfl⟩ b hb e
    rcases hb with ⟨m, hm, rfl⟩ | ⟨y, hy, rfl⟩
    · rcases hn m hm with h | h
      · exact h4 _ ⟨x, hx, rfl⟩ _ (.inl rfl) (by rw [e, h])
      · exact h x (.inl hx) e
    · exact h4 _ ⟨x, hx, rfl⟩ _ (.inr ⟨y, hy, rfl⟩) e
theorem Lvs.splice {N : Nat} {w w' : World} {lv lv' : Value} {L1 L2 M : List Leaf} {lf : Leaf} (h : Lvs N w lv (L1 ++ lf :: L2)) {S : List Nat} (hk : Kp S w w')
    (hS : ∀ b ∈ S, b = lf.b ∨ b = lf.kb ∨ b = lf.vb ∨ lv.ownBlock = some b ∨ ∃ c t, w.heap[b]? = some (.cells c t) ∧ t ≠ 81 ∧ t ≠ 44 ∧ t ≠ 49)
    (hM : ∀ m ∈ M, LeafOk N w' m ∧ (m.b = lf.b ∨ w.heap.size ≤ m.b) ∧ (m.kb = lf.kb ∨ w.heap.size ≤ m.kb) ∧ (m.vb = lf.vb ∨ w.heap.size ≤ m.vb))
    (nb : (M.map Leaf.b).Nodup) (nk : (M.map Leaf.kb).Nodup) (nv : (M.map Leaf.vb).Nodup)
    (row : w'.ownsRow N 82 1 lv' (L1 ++ (M ++ L2)).length ((L1 ++ (M ++ L2)).map fun l => P l.b)) (few : (L1 ++ (M ++ L2)).length ≤ 300) : Lvs N w' lv' (L1 ++ (M ++ L2)) := by
  have hlv : ∀ b, lv.ownBlock = some b → ∃ c, w.heap[b]? = some (.cells c 82) := by
    intro b hb
    rcases h.row.2 with ⟨rfl, _⟩ | ⟨g, cap, cur, rfl, _, hg, _⟩
    · simp [Value.ownBlock] at hb
    · simp [Value.ownBlock] at hb
      subst hb
      exact ⟨_, hg⟩
  have hlf := h.leaf lf (by simp)
  obtain ⟨fk, gk, _⟩ := ownsRow_blk hlf.keys
  obtain ⟨fv, gv, _⟩ := ownsRow_blk hlf.vals
  have other : ∀ x ∈ L1 ++ L2, x.b ≠ lf.b ∧ x.kb ≠ lf.kb ∧ x.vb ≠ lf.vb := by
    have key : ∀ {α : Type} (f : Leaf → α), ((L1 ++ lf :: L2).map f).Nodup → ∀ x ∈ L1 ++ L2, f x ≠ f lf := by
      intro α f hn x hx e
      simp only [List.map_append, List.map_cons, List.nodup_append, List.nodup_cons, List.mem_map, List.mem_cons] at hn
      rcases List.mem_append.1 hx with hx | hx
      · exact hn.2.2 _ ⟨x, hx, rfl⟩ _ (.inl rfl) e
      · exact hn.2.1.1 ⟨x, hx, e⟩
    exact fun x hx => ⟨key _ h.nb x hx, key _ h.nk x hx, key _ h.nv x hx⟩
  have mem : ∀ x, x ∈ L1 ++ L2 → x ∈ L1 ++ lf :: L2 := by
    intro x hx
    simp at hx ⊢
    rcases hx with h | h <;> simp [h]
  refine ⟨row, fun x hx => ?_, ?_, ?_, ?_, few⟩
  · have hx' : x ∈ M ∨ x ∈ L1 ++ L2 := by
      simp at hx ⊢
      rcases hx with h | h | h <;> simp [h]
    rcases hx' with hx' | hx'
    · exact (hM x hx').1
    · have lo := h.leaf x (mem x hx')
      obtain ⟨n1, n2, n3⟩ := other x hx'
      obtain ⟨c1, k1, _⟩ := ownsRow_blk lo.keys
      obtain ⟨c2, k2, _⟩ := ownsRow_blk lo.vals
      have far : ∀ (g : Nat) (c : Array Value) (t : TypeId), w.heap[g]? = some (.cells c t) → g ≠ lf.b → g ≠ lf.kb → g ≠ lf.vb → (t = 81 ∨ t = 44 ∨ t = 49) → w'.heap[g]? = w.heap[g]? := by
        intro g c t hg e1 e2 e3 ht
        refine hk.block g (lt_of hg) (fun hm => ?_)
        rcases hS g hm with e | e | e | e | ⟨c', t', e, a, b, d⟩
        · exact e1 e
        · exact e2 e
        · exact e3 e
        · obtain ⟨c', e⟩ := hlv g e
          rw [hg] at e
          simp at e
          rcases ht with rfl | rfl | rfl <;> simp at e
        · rw [hg] at e
          simp at e
          rcases ht with rfl | rfl | rfl
          · exact a e.2.symm
          · exact b e.2.symm
          · exact d e.2.symm
      exact lo.same (far _ _ _ lo.blk n1 (ne_kind lo.blk gk (by decide)) (ne_kind lo.blk gv (by decide)) (by simp))
        (far _ _ _ k1 (ne_kind k1 hlf.blk (by decide)) n2 (ne_kind k1 gv (by decide)) (by simp))
        (far _ _ _ k2 (ne_kind k2 hlf.blk (by decide)) (ne_kind k2 gk (by decide)) n3 (by simp))
  · refine nodup_splice _ h.nb nb (fun m hm => ?_)
    rcases (hM m hm).2.1 with e | e
    · exact .inl e
    · exact .inr (fun x hx => by have := lt_of (h.leaf x hx).blk; omega)
  · refine nodup_splice _ h.nk nk (fun m hm => ?_)
    rcases (hM m hm).2.2.1 with e | e
    · exact .inl e
    · exact .inr (fun x hx => by obtain ⟨c, g, _⟩ := ownsRow_blk (h.leaf x hx).keys; have := lt_of g; omega)
  · refine nodup_splice _ h.nv nv (fun m hm => ?_)
    rcases (hM m hm).2.2.2 with e | e
    · exact .inl e
    · exact .inr (fun x hx => by obtain ⟨c, g, _⟩ := ownsRow_blk (h.leaf x hx).vals; have := lt_of g; omega)
/-- The kinds of blocks that the map is made of. -/
def mapT (t : TypeId) : Bool := t == 85 || t == 82 || t == 81 || t == 44 || t == 49
/-- What a writer of the map may have turned: blocks at or above N, of the map's kinds. -/
structure Fr (N : Nat) (w w' : World) : Prop where
  os : w'.os = w.os
  tape : w'.tape = w.tape
  output : w'.output = w.output
  size : w.heap.size ≤ w'.heap.size
  low : ∀ b, b < w.heap.size → b < N → w'.heap[b]? = w.heap[b]?
  oth : ∀ (b : Nat) (c : Array Value) (t : TypeId), w.heap[b]? = some (Obj.cells c t) → mapT t = false → w'.heap[b]? = some (Obj.cells c t)
theorem Fr.trans {N : Nat} {a b c : World} (h : Fr N a b) (k : Fr N b c) : Fr N a c :=
  ⟨k.os.trans h.os, k.tape.trans h.tape, k.output.trans h.output, Nat.le_trans h.size k.size, fun i hi hn => (k.low i (Nat.lt_of_lt_of_le hi h.size) hn).trans (h.low i hi hn), fun i c t hi ht => k.oth i c t (h.oth i c t hi ht) ht⟩
theorem Fr.of {N : Nat} {S : List Nat} {w w' : World} (h : Kp S w w') (hS : ∀ b ∈ S, w.heap.size ≤ b ∨ (N ≤ b ∧ ∃ c t, w.heap[b]? = some (.cells c t) ∧ mapT t = true)) : Fr N w w' := by
  refine ⟨h.os, h.tape, h.output, h.size, fun b hb hn => h.block b hb (fun hm => ?_), fun b c t hb ht => h.at hb (fun hm => ?_)⟩
  · rcases hS b hm with e | ⟨e, _⟩ <;> omega
  · have := lt_of hb
    rcases hS b hm with e | ⟨_, c', t', e, ht'⟩
    · omega
    · rw [hb] at e
      simp at e
      rw [← e.2, ht] at ht'
      cases ht'
end Go.Proofs.Ybulkcnom
