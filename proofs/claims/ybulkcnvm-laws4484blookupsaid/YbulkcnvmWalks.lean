/-
  Seat b4484a: zzs4484blast, (*resolver).def and zzs4484bbuild, walked.
-/
import Derived.Test.YbulkcnvmBase

namespace Go.Proofs.Ybulkcnvm
open Go.RowKit Go.Maps
open Go.WideMaps (keyOf_string_mk)
/-- A slice of n strings that came in: what its elements hold; each of at most 2^47 bytes. -/
def Keys (w : World) (a : Option Addr) (n : Nat) (ss : Nat → ByteArray) : Prop :=
  n = 0 ∨ ∃ kb ko, a = some ⟨kb, ko, none⟩ ∧ kb < w.heap.size ∧ ∀ i, i < n → w.cell? ⟨kb, ko + i, none⟩ = some (.string (ss i)) ∧ (ss i).size ≤ 140737488351232
theorem Keys.step {w w' : World} {a : Option Addr} {n : Nat} {ss : Nat → ByteArray} (h : Keys w a n ss) (k : Below w.heap.size w w') : Keys w' a n ss := by
  rcases h with h | ⟨kb, ko, h1, h2, h3⟩
  · exact Or.inl h
  · exact Or.inr ⟨kb, ko, h1, Nat.lt_of_lt_of_le h2 k.size, fun i hi => ⟨(k.cell (p := ⟨kb, ko + i, none⟩) h2).trans (h3 i hi).1, (h3 i hi).2⟩⟩
theorem str_beq (s t : ByteArray) : (s.toList == t.toList) = decide (s = t) := by
  by_cases h : s = t
  · subst h; simp
  · have : ¬ s.toList = t.toList := fun e => h (kl_inj (by rw [ByteArray.toList_eq, ByteArray.toList_eq] at e; simp only [kl, e]))
    simp [h, this]
set_option maxHeartbeats 800000 in
/-- zzs4484blast: the pointer stored last under the name. -/
theorem last_any (a : Option Addr) (n cap : Nat) (ss : Nat → ByteArray) (pb : Nat) (q : Nat → Option Nat) (name : ByteArray) (w : World) (hn : n ≤ 1024) (hk : Keys w a n ss)
    (hp : ∀ i, i < n → w.cell? ⟨pb, i, none⟩ = some (pv (q i))) :
    Calls Yba.prog 6 #[.slice a n cap, .slice (some ⟨pb, 0, none⟩) n n, .string name] w fun e w' => e = .returned (pv (lastp ss q n name)) ∧ w' = w := by
  go_enter Yba.func6, Yba.ntmps6
  go_wp2
  go_loop [7, 8] (fun d i => ∃ k : Nat, k ≤ n ∧ i = .int .i64 k ∧ d = pv (lastp ss q k name)) (fun _ i => n - (intOf i).toNat)
  case atStart => exact ⟨0, by omega, rfl, rfl⟩
  case round =>
    obtain ⟨k, hkn, rfl, rfl⟩ := hrel
    by_cases hlt : k < n
    · rcases hk with h | ⟨kb, ko, rfl, _, hc⟩
      · omega
      have c1 := (hc k hlt).1
      have c2 := hp k hlt
      clear hc hp
      by_cases he : ss k = name
      · have ht : ((ss k).toList == name.toList) = true := by rw [str_beq]; simpa using he
        have HL : Hid (lastp ss q (k + 1) name = q k) := by show (if ss k = name then q k else lastp ss q k name) = q k; rw [if_pos he]
        clear he
        go_wp2
        go_round
        case rel => exact ⟨k + 1, by omega, by go_num, by rw [HL.out]⟩
        case measure => simp [intOf]; omega
      · have ht : ((ss k).toList == name.toList) = false := by rw [str_beq]; simpa using he
        have HL : Hid (lastp ss q (k + 1) name = lastp ss q k name) := by show (if ss k = name then q k else lastp ss q k name) = _; rw [if_neg he]
        clear he
        go_wp2
        go_round
        case rel => exact ⟨k + 1, by omega, by go_num, by rw [HL.out]⟩
        case measure => simp [intOf]; omega
    · have : k = n := by omega
      subst this
      go_wp2
      go_ret
      exact ⟨rfl, rfl⟩

/-! ### (*resolver).def -/
set_option maxHeartbeats 800000 in
theorem def_any (rb ub m1 m2 n1 n2 : Nat) (D1 D2 : DataW Unit) (o1 o2 : Option Nat) (name : ByteArray) (hs : name.size ≤ maxLen) (w : World)
    (c0 : w.cell? ⟨rb, 0, none⟩ = some (.pointer (some ⟨ub, 0, none⟩))) (c7 : w.cell? ⟨rb, 7, none⟩ = some (.map (some m2))) (d1 : w.cell? ⟨ub, 1, none⟩ = some (.map (some m1)))
    (h1 : w.ownsMap Yba.prog 9 ptrElem m1 n1 D1) (h2 : w.ownsMap Yba.prog 9 ptrElem m2 n2 D2) (a1 : D1.atKey (kl name) .nil = dat o1) (a2 : D2.atKey (kl name) .nil = dat o2) :
    Calls Yba.prog 5 #[.pointer (some ⟨rb, 0, none⟩), .string name] w fun e w' => e = .returned (pv (if o1 = none then o2 else o1)) ∧ w' = w := by
  have r1 := look h1 hs a1
  have r2 := look h2 hs a2
  clear h1 h2 a1 a2
  cases o1 with
  | none =>
    simp only [pv] at r1
    go_enter Yba.func5, Yba.ntmps5
    go_wp2
    go_ret
    exact ⟨rfl, rfl⟩
  | some b =>
    simp only [pv] at r1
    go_enter Yba.func5, Yba.ntmps5
    go_wp2
    go_ret
    exact ⟨rfl, rfl⟩

/-! ### zzs4484bbuild -/
theorem info38 : (Yba.prog.info? 38).map (fun i => (i.zero, i.size, i.bytes)) = some (some (.pointer none), 1, 8) := by kernel_rfl
/-- The new slice's cells. -/
def zs (n : Nat) : Array Value := madeCells #[.pointer none] n
theorem make38 (n : Nat) (hn : n ≤ 1024) (W : World) : Sem.run Yba.prog (Instr.makeSlice 26 (.int .i64 n) (.int .i64 n)) W = .ok (.slice (some ⟨W.heap.size, 0, none⟩) n n) (W.alloc (.cells (zs n) 38)) := by
  obtain ⟨i0, hi, hz0, hz1, hz2⟩ := info_parts info38
  have h := run_make (P := Yba.prog) W 26 38 i0 (.pointer none) Yba.underlying26 hi hz0 .i64 .i64 n n (by omega) (by omega) (by rw [hz2]; omega) (by omega)
  rw [hz1] at h
  simpa [zs, Value.cells] using h
theorem cell_of {w : World} {b o : Nat} {c : Array Value} {t : TypeId} (h : w.heap[b]? = some (.cells c t)) : w.cell? ⟨b, o, none⟩ = c[o]? := by simp [World.cell?, h]
theorem frozen_of {w : World} {b o : Nat} {c : Array Value} {t : TypeId} (h : w.heap[b]? = some (.cells c t)) : w.frozen? ⟨b, o, none⟩ = false := by simp [World.frozen?, h]
theorem lt_of {w : World} {b : Nat} {o : Obj} (h : w.heap[b]? = some o) : b < w.heap.size := by
  rcases Nat.lt_or_ge b w.heap.size with h' | h'
  · exact h'
  · rw [Array.getElem?_eq_none h'] at h; cases h
theorem heap_setCell_same {w : World} {b o : Nat} {c : Array Value} {t : TypeId} (v : Value) (h : w.heap[b]? = some (.cells c t)) : (w.setCell ⟨b, o, none⟩ v).heap[b]? = some (.cells (c.setIfInBounds o v) t) := by
  simp [World.setCell, Array.getElem?_modify, h]
theorem heap_alloc_same (w : World) (o : Obj) : (w.alloc o).heap[w.heap.size]? = some o := (MapKept.heap_alloc w o).1
theorem heap_alloc_at (w : World) (o : Obj) {n : Nat} (hn : n = w.heap.size) : (w.alloc o).heap[n]? = some o := by subst hn; exact heap_alloc_same w o

/-- What stands after k rounds: the map at block b, the pointers' row at block b + 1. -/
structure Bd (w wr : World) (n k : Nat) (ss : Nat → ByteArray) (q : Nat → Option Nat) (D : DataW Unit) : Prop where
  own : wr.ownsMap Yba.prog 9 ptrElem w.heap.size k D
  hol : Holds D (lastp ss q k)
  row : ∃ cs, wr.heap[w.heap.size + 1]? = some (.cells cs 38) ∧ cs.size = n ∧ ∀ i, i < k → cs[i]? = some (pv (q i))
  kp : Below w.heap.size w wr
theorem Bd.start (w : World) (n : Nat) (ss : Nat → ByteArray) : Bd w ((w.alloc (.map #[] 0)).alloc (.cells (zs n) 38)) n 0 ss (fun _ => none) (.map []) := by
  refine ⟨(World.ownsMap_made w Yba.prog 9 ptrElem).alloc _, holds_start, ⟨zs n, heap_alloc_at _ _ (by simp), size_madeCells _ _, fun i hi => by omega⟩, ((Below.refl _ w).alloc (Nat.le_refl _) _).alloc (by simp) _⟩
theorem Bd.next {w wr W w1 : World} {n k : Nat} {ss : Nat → ByteArray} {q : Nat → Option Nat} {D : DataW Unit} (h : Bd w wr n k ss q D) (hkn : k < n) (o : Option Nat)
    (hrow : ∀ cs, wr.heap[w.heap.size + 1]? = some (.cells cs 38) → W.heap[w.heap.size + 1]? = some (.cells (cs.setIfInBounds k (pv o)) 38)) (hkp : Below w.heap.size w W)
    (hown : w1.ownsMap Yba.prog 9 ptrElem w.heap.size (k + 1) (D.put (kl (ss k)) (dat o))) (hg : W.grownBy w1 (some w.heap.size)) :
    ∃ q' D', Bd w w1 n (k + 1) ss q' D' := by
  refine ⟨fun i => if i = k then o else q i, D.put (kl (ss k)) (dat o), hown, ?_, ?_, ?_⟩
  · have := h.hol.put (ss k) o
    refine ⟨this.1, fun s => ?_⟩
    rw [this.2 s]
    congr 1
    show (if ss k = s then o else lastp ss q k s) = (if ss k = s then (if k = k then o else q k) else lastp ss (fun i => if i = k then o else q i) k s)
    rw [if_pos rfl, lastp_congr s k (q := q) (q' := fun i => if i = k then o else q i) (fun i hi => by rw [if_neg (by omega)])]
  · obtain ⟨cs, h1, h2, h3⟩ := h.row
    have h4 := hrow cs h1
    refine ⟨cs.setIfInBounds k (pv o), (hg.block _ (lt_of h4) (by simp)).trans h4, by simp [h2], fun i hi => ?_⟩
    rw [Array.getElem?_setIfInBounds]
    by_cases e : i = k
    · subst e
      rw [if_pos rfl, if_pos (by omega)]
      show _ = some (pv (if i = i then o else q i))
      rw [if_pos rfl]
    · rw [if_neg (Ne.symm e), h3 i (by omega)]
      show _ = some (pv (if i = k then o else q i))
      rw [if_neg e]
  · exact hkp.grown hg hkp.size (fun j hj => by cases hj; exact Nat.le_refl _)
set_option maxHeartbeats 1600000 in
theorem build_any (a : Option Addr) (n cap : Nat) (ss : Nat → ByteArray) (mask : Int) (tag : ByteArray) (w : World) (hn : n ≤ 1024) (hk : Keys w a n ss) (ht : tag.size ≤ 2) :
    Calls Yba.prog 4 #[.slice a n cap, .int .u64 mask, .string tag] w fun e w' => e = .returned (.tuple #[.map (some w.heap.size), .slice (some ⟨w.heap.size + 1, 0, none⟩) n n]) ∧ ∃ q D, Bd w w' n n ss q D := by
  have hmm := @run_makeMap Yba.prog
  have hmk := make38 n hn
  go_enter Yba.func4, Yba.ntmps4
  go_wp2
  go_loopw [10] (fun i wr => ∃ k : Nat, k ≤ n ∧ i = .int .i64 k ∧ ∃ q D, Bd w wr n k ss q D) (fun i _ => n - (intOf i).toNat)
  case atStart => exact ⟨0, by omega, rfl, _, _, Bd.start w n ss⟩
  case round =>
    obtain ⟨k, hkn, rfl, q, D, hbd⟩ := hrel
    by_cases hlt : k < n
    · rcases hk with h | ⟨kb, ko, rfl, hkb, hc⟩
      · omega
      have c1 := (hbd.kp.cell (p := ⟨kb, ko + k, none⟩) hkb).trans (hc k hlt).1
      have z1 := (hc k hlt).2
      have hcat : ∀ W, Sem.run Yba.prog (Op.stringOp .add tag (ss k)) W = .ok (.string (tag ++ ss k)) W := fun W => run_string_add_sum (P := Yba.prog) W tag (ss k) (by omega)
      obtain ⟨cs, r1, r2, r3⟩ := hbd.row
      have lrow := lt_of r1
      obtain ⟨v0, c2⟩ : ∃ v, wr.cell? ⟨w.heap.size + 1, k, none⟩ = some v := ⟨cs[k]'(by omega), by rw [cell_of r1]; simp [r2, hlt]⟩
      have f2 := frozen_of (o := k) r1
      have lkb : kb < wr.heap.size := Nat.lt_of_lt_of_le hkb hbd.kp.size
      have hne : ¬ w.heap.size + 1 = kb := by omega
      have hkey := keyOf_string_mk (P := Yba.prog) Yba.underlying9 (s := ss k) (by unfold maxLen; omega)
      have HB := (show Hid (Bd w wr n k ss q D) from hbd)
      have HR := (show Hid _ from r1)
      clear hbd r1 r2 r3 hc
      by_cases hm : (bits .and .u64 mask (IntKind.u64.wrap (2 ^ (k % 64))) == 0) = true
      · go_wp2_with (at_mapUpdate; refine wpList_mapUpdate_own _ rfl _ _ _ 25 rfl 9 38 law9 Yba.underlying25 ptrElem w.heap.size k D rfl (by exact (HB.out.own.setCell (a := ⟨w.heap.size + 1, k, none⟩) (by simp) _).alloc _) (by unfold maxLen; omega) _ _ _ rfl rfl hkey (dat (some wr.heap.size)) [] (ptrElem_pv (some wr.heap.size)) ?_; intro w1 hown1 hgrow1)
        have hnext := HB.out.next hlt (some wr.heap.size) (fun cs h => (Below.heap_alloc _ _ _ (by simpa using lt_of h)).trans (heap_setCell_same _ h)) ((HB.out.kp.setCell (by simp) _).alloc (by simpa using HB.out.kp.size) _) hown1 hgrow1
        go_roundw
        case rel => exact ⟨k + 1, by omega, by go_num, hnext⟩
        case measure => simp [intOf]; omega
      · have hm' : (bits .and .u64 mask (IntKind.u64.wrap (2 ^ (k % 64))) == 0) = false := by simpa using hm
        go_wp2_with (at_mapUpdate; refine wpList_mapUpdate_own _ rfl _ _ _ 25 rfl 9 38 law9 Yba.underlying25 ptrElem w.heap.size k D rfl (by exact (HB.out.own.setCell (a := ⟨w.heap.size + 1, k, none⟩) (by simp) _)) (by unfold maxLen; omega) _ _ _ rfl rfl hkey (dat none) [] (ptrElem_pv none) ?_; intro w1 hown1 hgrow1)
        have hnext := HB.out.next hlt none (fun cs h => heap_setCell_same _ h) (HB.out.kp.setCell (by simp) _) hown1 hgrow1
        go_roundw
        case rel => exact ⟨k + 1, by omega, by go_num, hnext⟩
        case measure => simp [intOf]; omega
    · have : k = n := by omega
      subst this
      go_wp2
      go_ret2
      exact ⟨rfl, q, D, hbd⟩
end Go.Proofs.Ybulkcnvm
