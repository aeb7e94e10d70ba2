/-
  Seat b4471a, Forward and Back: the words on worlds that the walks use: 'Kp' (what a call may have turned, block by block), values as keys, comparing them.
-/
import Derived.Test.YbulkcnomRows
import Derived.WalkKit
import Derived.WalkSpells
import Derived.ProofKit
import Derived.BigRegion
import Derived.BigQuiet
import Derived.Laws.CopyOwn
import Derived.Deep.RegionWith
import Derived.Deep.DrawnRows
namespace Go.Proofs.Ybulkcnom
open Go.RowKit

/-- w' is w but for new blocks and for the blocks of S. -/
structure Kp (S : List Nat) (w w' : World) : Prop where
  os : w'.os = w.os
  tape : w'.tape = w.tape
  output : w'.output = w.output
  size : w.heap.size ≤ w'.heap.size
  block : ∀ k, k < w.heap.size → k ∉ S → w'.heap[k]? = w.heap[k]?

theorem Kp.refl (S : List Nat) (w : World) : Kp S w w := ⟨rfl, rfl, rfl, Nat.le_refl _, fun _ _ _ => rfl⟩
theorem Kp.trans {S : List Nat} {a b c : World} (h : Kp S a b) (k : Kp S b c) : Kp S a c :=
  ⟨k.os.trans h.os, k.tape.trans h.tape, k.output.trans h.output, Nat.le_trans h.size k.size, fun i hi hs => (k.block i (Nat.lt_of_lt_of_le hi h.size) hs).trans (h.block i hi hs)⟩
theorem Kp.mono {S S' : List Nat} {a b : World} (h : Kp S a b) (hs : ∀ k, k ∈ S → k ∈ S') : Kp S' a b :=
  ⟨h.os, h.tape, h.output, h.size, fun i hi hn => h.block i hi (fun hm => hn (hs i hm))⟩
theorem Kp.any {S : List Nat} {a b : World} (h : Kp [] a b) : Kp S a b := h.mono (by simp)
theorem Kp.drew {S : List Nat} {a w : World} (h : Kp S a w) : Kp S a w.drew := ⟨h.os, h.tape, h.output, h.size, h.block⟩
theorem Kp.alloc {S : List Nat} {a w : World} (h : Kp S a w) (o : Obj) : Kp S a (w.alloc o) :=
  h.trans ⟨rfl, rfl, rfl, by simp, fun k hk _ => Below.heap_alloc _ _ _ hk⟩
/-- A store into a block that S names, or into a new one. -/
theorem Kp.setCell {S : List Nat} {a w : World} (h : Kp S a w) {p : Addr} (hp : p.block ∈ S ∨ a.heap.size ≤ p.block) (v : Value) : Kp S a (w.setCell p v) := by
  refine ⟨h.os, h.tape, h.output, by simpa using h.size, fun k hk hs => ?_⟩
  have hne : k ≠ p.block := by
    intro e
    subst e
    rcases hp with hp | hp
    · exact hs hp
    · omega
  rw [Below.heap_setCell _ _ _ _ hne]
  exact h.block k hk hs
/-- What a call leaves, told at the world ahead of new blocks. -/
theorem Kp.new {S : List Nat} {a b c : World} (h : Kp S a b) {S' : List Nat} (k : Kp S' b c) (hs : ∀ x, x ∈ S' → x ∈ S ∨ a.heap.size ≤ x) : Kp S a c :=
  ⟨k.os.trans h.os, k.tape.trans h.tape, k.output.trans h.output, Nat.le_trans h.size k.size, fun i hi hn => (k.block i (Nat.lt_of_lt_of_le hi h.size) (fun hm => by rcases hs i hm with h | h; exact hn h; omega)).trans (h.block i hi hn)⟩

theorem heap_setCell_same' {w : World} {b o : Nat} {c : Array Value} {t : TypeId} (v : Value) (h : w.heap[b]? = some (.cells c t)) : (w.setCell ⟨b, o, none⟩ v).heap[b]? = some (.cells (c.setIfInBounds o v) t) := by
  simp [World.setCell, Array.getElem?_modify, h]
theorem heap_alloc_same (w : World) (o : Obj) : (w.alloc o).heap[w.heap.size]? = some o := (MapKept.heap_alloc w o).1
theorem heap_alloc_at (w : World) (o : Obj) {k : Nat} (h : k = w.heap.size) : (w.alloc o).heap[k]? = some o := by subst h; exact heap_alloc_same w o
theorem cell_of {w : World} {b o : Nat} {c : Array Value} {t : TypeId} (h : w.heap[b]? = some (.cells c t)) : w.cell? ⟨b, o, none⟩ = c[o]? := by simp [World.cell?, h]
theorem frozen_of {w : World} {b o : Nat} {c : Array Value} {t : TypeId} (h : w.heap[b]? = some (.cells c t)) : w.frozen? ⟨b, o, none⟩ = false := by simp [World.frozen?, h]
theorem lt_of {w : World} {b : Nat} {o : Obj} (h : w.heap[b]? = some o) : b < w.heap.size := by
  rcases Nat.lt_or_ge b w.heap.size with h' | h'
  · exact h'
  · rw [Array.getElem?_eq_none h'] at h; cases h
theorem Kp.at {S : List Nat} {w w' : World} (h : Kp S w w') {b : Nat} {o : Obj} (hb : w.heap[b]? = some o) (hs : b ∉ S) : w'.heap[b]? = some o := (h.block b (lt_of hb) hs).trans hb

/-- The Value of an integer: its cells; itself. -/
abbrev VC (x : Int) : Array Value := #[.int .u8 1, .int .i64 x, .string ⟨#[]⟩]
abbrev V (x : Int) : Value := .agg (VC x)
abbrev P (b : Nat) : Value := .pointer (some ⟨b, 0, none⟩)

def cmp3 (a b : Int) : Int := if a < b then -1 else if b < a then 1 else 0

theorem isNaN (a : Int) (w : World) : Calls Yba.prog 42 #[.int .i64 a] w fun e w' => e = .returned (.bool false) ∧ w' = w := by
  go_enter Yba.func42, Yba.ntmps42
  go_wp2
  go_ret
  simp
set_option maxHeartbeats 800000 in
theorem compare64 (a b : Int) (w : World) : Calls Yba.prog 34 #[.int .i64 a, .int .i64 b] w fun e w' => e = .returned (.int .i64 (cmp3 a b)) ∧ w' = w := by
  obtain ⟨c, hc⟩ : ∃ c, c = cmp3 a b := ⟨_, rfl⟩
  rw [← hc]
  have HC : Hid (c = cmp3 a b) := hc
  clear hc
  go_enter Yba.func34, Yba.ntmps34
  go_wp2_with (go_at_call 42; refine (isNaN _ _).mono ?_; rintro e w' ⟨rfl, rfl⟩)
  all_goals go_ret
  all_goals (refine ⟨?_, rfl⟩; have hc := HC.out; subst hc; simp [cmp3]; omega)
/-- Compare at two integers. -/
theorem compare (a b : Int) (w : World) : Calls Yba.prog 23 #[V a, V b] w fun e w' => e = .returned (.int .i64 (cmp3 a b)) ∧ Kp [] w w' := by
  go_enter Yba.func23, Yba.ntmps23
  go_wp2_with (go_at_call 34; refine (compare64 _ _ _).mono ?_; rintro e w' ⟨rfl, rfl⟩)
  go_ret
  exact ⟨rfl, ((Kp.refl _ _).alloc _).alloc _⟩

theorem intV (x : Int) (w : World) : Calls Yba.prog 10 #[.int .i64 x] w fun e w' => e = .returned (V x) ∧ Kp [] w w' := by
  go_enter Yba.func10, Yba.ntmps10
  go_wp2
  simp [bodyPost, results, Yba.results10, go_sem]
  exact (Kp.refl _ _).alloc _
theorem always (x : Int) (w : World) : Calls Yba.prog 15 #[V x] w fun e w' => e = .returned (.bool true) ∧ Kp [] w w' := by
  go_enter Yba.func15, Yba.ntmps15
  go_wp2
  go_ret
  exact ⟨rfl, (Kp.refl _ _).alloc _⟩
/-- 'starts' of fromPlace. -/
def st (c : Int) (a : Bool) : Bool := decide (0 < c) || (decide (c = 0) && a)
theorem starts (b : Nat) (c : Int) (a : Bool) (w : World) (hb : w.heap[b]? = some (.cells #[.bool a] 4)) : Calls Yba.prog 20 #[.int .i64 c, P b] w fun e w' => e = .returned (.bool (st c a)) ∧ w' = w := by
  have h0 : w.cell? ⟨b, 0, none⟩ = some (.bool a) := by rw [cell_of hb]; rfl
  clear hb
  unfold st
  by_cases h1 : 0 < c
  · go_enter Yba.func20, Yba.ntmps20
    go_wp2
    go_ret
    simp [h1]
  · by_cases h2 : c = 0
    · subst h2
      go_enter Yba.func20, Yba.ntmps20
      go_wp2
      go_ret
      simp
    · go_enter Yba.func20, Yba.ntmps20
      go_wp2
      go_ret
      simp [h1]

/-! ### The map in memory -/
/-- The map's block: its order is Compare. -/
abbrev MC (lv : Value) (near sh : Int) : Array Value := #[.func (.func 23) #[] #[], lv, .int .i64 near, .int .u64 sh]
/-- The cells of keys. -/
def flat (ks : List Int) : List Value := ks.flatMap fun x => (VC x).toList
theorem flat_length (ks : List Int) : (flat ks).length = ks.length * 3 := by
  induction ks with
  | nil => rfl
  | cons x xs ih => simp [flat] at ih ⊢; omega
theorem flat_cons (x : Int) (ks : List Int) : flat (x :: ks) = .int .u8 1 :: .int .i64 x :: .string ⟨#[]⟩ :: flat ks := rfl
theorem flat_at (ks : List Int) : ∀ i, i < ks.length → (flat ks)[i * 3]? = some (.int .u8 1) ∧ (flat ks)[i * 3 + 1]? = some (.int .i64 (ks.getD i 0)) ∧ (flat ks)[i * 3 + 2]? = some (.string ⟨#[]⟩) := by
  induction ks with
  | nil => intro i hi; simp at hi
  | cons x xs ih =>
    intro i hi
    rw [flat_cons]
    cases i with
    | zero => simp
    | succ i =>
      have := ih i (by simpa using hi)
      have e : (i + 1) * 3 = i * 3 + 3 := by omega
      rw [e]
      simpa using this
theorem flat_append (a b : List Int) : flat (a ++ b) = flat a ++ flat b := by simp [flat]

/-- A leaf: its block; the blocks and rooms of its keys and values; its keys; its values' blocks. -/
structure Leaf where
  b : Nat
  kb : Nat
  kc : Nat
  vb : Nat
  vc : Nat
  ks : List Int
  vs : List Nat
def Leaf.last (l : Leaf) : Int := l.ks.getD (l.ks.length - 1) 0

structure LeafOk (N : Nat) (w : World) (l : Leaf) : Prop where
  base : N ≤ l.b
  blk : w.heap[l.b]? = some (.cells #[.slice (some ⟨l.kb, 0, none⟩) l.ks.length l.kc, .slice (some ⟨l.vb, 0, none⟩) l.ks.length l.vc] 81)
  keys : w.ownsRow N 44 3 (.slice (some ⟨l.kb, 0, none⟩) l.ks.length l.kc) l.ks.length (flat l.ks)
  vals : w.ownsRow N 49 1 (.slice (some ⟨l.vb, 0, none⟩) l.ks.length l.vc) l.ks.length (l.vs.map P)
  pos : 0 < l.ks.length
  few : l.ks.length ≤ 128

theorem ownsRow_blk {w : World} {N : Nat} {e : TypeId} {size g n cap : Nat} {xs : List Value} (h : w.ownsRow N e size (.slice (some ⟨g, 0, none⟩) n cap) n xs) : ∃ cur, w.heap[g]? = some (.cells cur e) ∧ N ≤ g ∧ n ≤ cap ∧ cap ≤ maxLen ∧ cur.size = cap * size ∧ cur.toList.take (n * size) = xs := by
  rcases h.2 with ⟨h', _⟩ | ⟨g', cap', cur, h', hb, hg, a, b, c, d⟩
  · simp at h'
  · simp only [Value.slice.injEq, Option.some.injEq, Addr.mk.injEq, and_true, true_and] at h'
    obtain ⟨rfl, rfl⟩ := h'
    exact ⟨cur, hg, hb, a, b, c, d⟩
theorem ownsRow_same {w w' : World} {N : Nat} {e : TypeId} {size n : Nat} {v : Value} {xs : List Value} (h : w.ownsRow N e size v n xs) (hb : ∀ g, v.ownBlock = some g → w'.heap[g]? = w.heap[g]?) : w'.ownsRow N e size v n xs := by
  refine ⟨h.1, ?_⟩
  rcases h.2 with hn | ⟨g, cap, cur, rfl, hN, hgg, rest⟩
  · exact .inl hn
  · exact .inr ⟨g, cap, cur, rfl, hN, (hb g rfl).trans hgg, rest⟩
theorem ne_kind {w : World} {a b : Nat} {c d : Array Value} {t u : TypeId} (ha : w.heap[a]? = some (.cells c t)) (hb : w.heap[b]? = some (.cells d u)) (h : t ≠ u) : a ≠ b := by
  intro e
  subst e
  rw [ha] at hb
  simp at hb
  exact h hb.2
theorem LeafOk.same {N : Nat} {w w' : World} {l : Leaf} (h : LeafOk N w l) (h1 : w'.heap[l.b]? = w.heap[l.b]?) (h2 : w'.heap[l.kb]? = w.heap[l.kb]?) (h3 : w'.heap[l.vb]? = w.heap[l.vb]?) : LeafOk N w' l :=
  ⟨h.base, h1.trans h.blk, ownsRow_same h.keys (fun g hg => by simp [Value.ownBlock] at hg; subst hg; exact h2), ownsRow_same h.vals (fun g hg => by simp [Value.ownBlock] at hg; subst hg; exact h3), h.pos, h.few⟩

/-- The leaves in memory. -/
structure Lvs (N : Nat) (w : World) (lv : Value) (L : List Leaf) : Prop where
  row : w.ownsRow N 82 1 lv L.length (L.map fun l => P l.b)
  leaf : ∀ l ∈ L, LeafOk N w l
  nb : (L.map Leaf.b).Nodup
  nk : (L.map Leaf.kb).Nodup
  nv : (L.map Leaf.vb).Nodup
  few : L.length ≤ 300
/-- The map in memory: 'sh' changes so far. -/
structure Rep (N : Nat) (w : World) (mb : Nat) (sh : Int) (L : List Leaf) : Prop where
  base : N ≤ mb
  has : ∃ (lv : Value) (near : Nat), w.heap[mb]? = some (.cells (MC lv near sh) 85) ∧ near ≤ L.length ∧ Lvs N w lv L
theorem Lvs.kp {N : Nat} {w w' : World} {lv : Value} {L : List Leaf} (h : Lvs N w lv L) {S : List Nat} (hk : Kp S w w') (hS : ∀ k ∈ S, ∃ c t, w.heap[k]? = some (.cells c t) ∧ t ≠ 82 ∧ t ≠ 81 ∧ t ≠ 44 ∧ t ≠ 49) : Lvs N w' lv L := by
  have key : ∀ (b : Nat) (c : Array Value) (t : TypeId), w.heap[b]? = some (.cells c t) → (t = 82 ∨ t = 81 ∨ t = 44 ∨ t = 49) → w'.heap[b]? = w.heap[b]? := by
    intro b c t hb ht
    refine hk.block b (lt_of hb) (fun hm => ?_)
    obtain ⟨c', t', hb', h1, h2, h3, h4⟩ := hS b hm
    rw [hb] at hb'
    simp at hb'
    obtain ⟨_, rfl⟩ := hb'
    rcases ht with h | h | h | h
    · exact h1 h
    · exact h2 h
    · exact h3 h
    · exact h4 h
  refine ⟨?_, fun l hl => ?_, h.nb, h.nk, h.nv, h.few⟩
  · refine ownsRow_same h.row (fun g hg => ?_)
    rcases h.row.2 with ⟨rfl, _⟩ | ⟨g', cap, cur, rfl, hN, hgg, rest⟩
    · simp [Value.ownBlock] at hg
    · simp [Value.ownBlock] at hg
      subst hg
      exact key _ _ _ hgg (by simp)
  · have lo := h.leaf l hl
    obtain ⟨c1, k1, _⟩ := ownsRow_blk lo.keys
    obtain ⟨c2, k2, _⟩ := ownsRow_blk lo.vals
    exact lo.same (key _ _ _ lo.blk (by simp)) (key _ _ _ k1 (by simp)) (key _ _ _ k2 (by simp))
end Go.Proofs.Ybulkcnom
