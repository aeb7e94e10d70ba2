/-
  Seat b4471a, Forward and Back: LawS4471ABack.
-/
import Derived.Test.YbulkcnomEq
import Derived.Deep.DeepCutAuto
import Derived.Test.YbulkcnomInsert
namespace Go.Proofs.Ybulkcnom
open Go.RowKit
attribute [local go_sem ↓] Go.wp_at_zero Go.wp_at_succ
attribute [local go_sem] neq23 eqIn33
theorem built47 (q pk : Int) : Yba.prog.built 47 [(0, .int .i64 0), (1, V q), (2, V pk)] = some (PlC q pk) := by kernel_rfl
theorem yields47 (s t : Nat) (q pk : Int) (w : World) (a : Act) (o : Oper) (ho : o.op = .build 47 #[(0, .const (.int .i64 0)), (1, .tmp s), (2, .tmp t)]) (h1 : a.eval (.tmp s) = V q) (h2 : a.eval (.tmp t) = V pk) : (execOp a.eval o).run Yba.prog w = .ok (.value (.agg (PlC q pk))) w := by
  have e : (#[(0, Operand.const (.int .i64 0)), (1, .tmp s), (2, .tmp t)].map fun (i, x) => (i, a.eval x)) = #[((0 : Nat), Value.int .i64 0), (1, V q), (2, V pk)] := by
    have h0 : a.eval (.const (.int .i64 0)) = .int .i64 0 := rfl
    simp only [List.map_toArray, List.map_cons, List.map_nil, h0, h1, h2]
  unfold execOp
  simp only [ho, Sem.run_bind, e, run_build w 47 _ _ (built47 q pk), Result.andThen_ok, Sem.run_pure]
theorem step_store_whole {P : Program} {ops : Array Oper} {o : Oper} {a : Act} {w : World} {K : Act → World → Prop} {Q : Exit → Act → World → Prop} {E : Prop} (hgd : o.guard = none) (ty : TypeId) (x y : Operand) (ho : o.op = .store ty x y)
    (g : Nat) (cs : Array Value) (hx : a.eval x = .pointer (some ⟨g, 0, none⟩)) (hy : a.eval y = .agg cs) (t : TypeId) (old : Array Value) (hg : w.heap[g]? = some (.cells old t)) (hi : (P.info? ty).map (·.size) = some cs.size)
    (hold : old.size = cs.size) (h1 : cs.all (·.oneCell') = true) (h : ∀ w', w'.heap[g]? = some (.cells cs t) → Kp [g] w w' → K (a.put o.dst undef) w') :
    if Region.wanted o (yielded ops a.tmps) = true then Oper.wp P o a w K Q else E := by
  have hw : Region.wanted o (yielded ops a.tmps) = true := by simp [Region.wanted, hgd]
  rw [if_pos hw]
  exact wp_store_row ty x y ho g cs hx hy t old hg hi hold h1 (h _ (setRow_heap w g _ _ t _ hg) ⟨rfl, rfl, rfl, by simp [World.setRow], fun k _ hm => setRow_other w g k _ (by simpa using hm)⟩)
theorem current (x : Int) (w : World) : Calls Yba.prog 8 #[.int .u64 x] w fun e w' => e = .returned (.agg (VwC x 0 0)) ∧ Kp [] w w' := by
  go_enter Yba.func8, Yba.ntmps8
  go_wp2
  simp [bodyPost, results, Yba.results8, go_sem]
  exact (Kp.refl _ _).alloc _
theorem snapshot (x y : Int) (w : World) : Calls Yba.prog 13 #[.int .u64 x, .int .u64 y] w fun e w' => e = .returned (.agg (VwC x 1 y)) ∧ Kp [] w w' := by
  go_enter Yba.func13, Yba.ntmps13
  go_wp2
  simp [bodyPost, results, Yba.results13, go_sem]
  exact (Kp.refl _ _).alloc _
theorem key_mem {L : List Leaf} {l i : Nat} (hl : l < L.length) (hi : i < L[l].ks.length) : L[l].ks[i] ∈ keysOf L := List.mem_flatMap.2 ⟨L[l], List.getElem_mem hl, List.getElem_mem hi⟩
theorem FrV.below {N : Nat} {w w' : World} (h : FrV N w w') (hN : N = w.heap.size) : Below N w w' := ⟨h.os, h.tape, h.output, h.size, fun k hk => h.low k (by omega) hk⟩
/-- Before the place: a key there is the greatest of those that p does not hold of. -/
theorem Pos.up {p : Int → Bool} {L : List Leaf} {l i : Nat} (_ : Pos p L l i) (hm : ∀ x y, x ≤ y → p x = true → p y = true) (hs : Srt L) (hl : l < L.length) (hi : i < L[l].ks.length) (hpi : p L[l].ks[i] = true) (k : Nat) {j : Nat} (hk : k < L.length) (hj : j < L[k].ks.length) (e : l < k ∨ (k = l ∧ i ≤ j)) : ¬ p L[k].ks[j] = false := by
  have hle : L[l].ks[i] ≤ L[k].ks[j] := by
    rcases e with e | ⟨e, e'⟩
    · exact Int.le_of_lt (List.pairwise_iff_getElem.1 hs.all l k hl hk e _ (List.getElem_mem hi) _ (List.getElem_mem hj))
    · subst e
      by_cases e2 : i = j
      · subst e2; exact Int.le_refl _
      · exact Int.le_of_lt (List.pairwise_iff_getElem.1 (hs.own _ (List.getElem_mem hl)) i j hi hj (by omega))
  rw [hm _ _ hle hpi]
  simp
theorem prev_key {p : Int → Bool} (hm : ∀ x y, x ≤ y → p x = true → p y = true) {L : List Leaf} {l i : Nat} {lp ip : Int} (hs : Srt L) (hpos : ∀ x ∈ L, 0 < x.ks.length) (h : Pos p L l i) (hp : PrevOf L l i lp ip) {b : Int} (hb : b ∈ keysOf L) (hbp : p b = false) :
    ∃ (l2 i2 : Nat) (hl : l2 < L.length) (hi : i2 < L[l2].ks.length), lp = l2 ∧ ip = i2 ∧ p L[l2].ks[i2] = false ∧ ∀ y ∈ keysOf L, p y = false → y ≤ L[l2].ks[i2] := by
  have low : ∀ y ∈ keysOf L, p y = false → ∃ k j, ∃ (hk : k < L.length) (hj : j < L[k].ks.length), L[k].ks[j] = y ∧ (k < l ∨ (k = l ∧ j < i)) := by
    intro y hy hpy
    obtain ⟨lf, hlf, hy⟩ := List.mem_flatMap.1 hy
    obtain ⟨k, hk, rfl⟩ := List.mem_iff_getElem.1 hlf
    obtain ⟨j, hj, rfl⟩ := List.mem_iff_getElem.1 hy
    refine ⟨k, j, hk, hj, rfl, ?_⟩
    rcases Nat.lt_trichotomy k l with e | e | e
    · exact .inl e
    · subst e
      rcases Nat.lt_or_ge j i with e | e
      · exact .inr ⟨rfl, e⟩
      · obtain ⟨hi, hpi, _⟩ := h.here hk
        exact absurd hpy (h.up hm hs hk hi hpi _ hk hj (.inr ⟨rfl, e⟩))
    · have hl : l < L.length := by omega
      obtain ⟨hi, hpi, _⟩ := h.here hl
      exact absurd hpy (h.up hm hs hl hi hpi _ hk hj (.inl e))
  obtain ⟨kb, jb, hkb, hjb, _, hbb⟩ := low b hb hbp
  rcases hp with ⟨h1, h2, h3⟩ | ⟨h1, h2, hh, h3, h4⟩ | ⟨h1, h2, _⟩
  · have hl : l < L.length := by
      rcases Nat.lt_or_ge l L.length with e | e
      · exact e
      · have := h.out (by have := h.le; omega); omega
    obtain ⟨hi, _, hlo⟩ := h.here hl
    refine ⟨l, i - 1, hl, by omega, h2, by omega, hlo _ _ (by omega), fun y hy hpy => ?_⟩
    obtain ⟨k, j, hk, hj, rfl, e⟩ := low y hy hpy
    rcases e with e | ⟨e, e'⟩
    · exact Int.le_of_lt (List.pairwise_iff_getElem.1 hs.all k l hk hl e _ (List.getElem_mem hj) _ (List.getElem_mem (by omega)))
    · subst e
      by_cases e2 : j = i - 1
      · subst e2; exact Int.le_refl _
      · exact Int.le_of_lt (List.pairwise_iff_getElem.1 (hs.own _ (List.getElem_mem hl)) j (i - 1) hj (by omega) (by omega))
  · have hp0 := hpos _ (List.getElem_mem hh)
    refine ⟨l - 1, L[l - 1].ks.length - 1, hh, by omega, h3, by omega, h.lo _ hh (by omega) _ (List.getElem_mem _), fun y hy hpy => ?_⟩
    obtain ⟨k, j, hk, hj, rfl, e⟩ := low y hy hpy
    have e : k < l := by omega
    by_cases e2 : k = l - 1
    · subst e2
      by_cases e3 : j = L[l - 1].ks.length - 1
      · subst e3; exact Int.le_refl _
      · exact Int.le_of_lt (List.pairwise_iff_getElem.1 (hs.own _ (List.getElem_mem hh)) j _ hj (by omega) (by omega))
    · exact Int.le_of_lt (List.pairwise_iff_getElem.1 hs.all k (l - 1) hk hh (by omega) _ (List.getElem_mem hj) _ (List.getElem_mem (by omega)))
  · omega
theorem first_all {p : Int → Bool} {L : List Leaf} {l i : Nat} (hpos : ∀ x ∈ L, 0 < x.ks.length) (h : Pos p L l i) (ha : ∀ y ∈ keysOf L, p y = true) : l = 0 ∧ i = 0 := by
  have hl : l = 0 := by
    rcases Nat.eq_zero_or_pos l with e | e
    · exact e
    · have h0 : 0 < L.length := by have := h.le; omega
      have hp0 := hpos _ (List.getElem_mem h0)
      have e1 := h.lo 0 h0 e _ (List.getElem_mem hp0)
      rw [ha _ (key_mem h0 hp0)] at e1
      cases e1
  refine ⟨hl, ?_⟩
  rcases Nat.lt_or_ge l L.length with e | e
  · obtain ⟨hi, _, hlo⟩ := h.here e
    rcases Nat.eq_zero_or_pos i with e2 | e2
    · exact e2
    · have e1 := hlo 0 (by omega) e2
      rw [ha _ (key_mem e (by omega))] at e1
      cases e1
  · exact h.out (by have := h.le; omega)
theorem enter15 (args : Array Value) (w : World) : Sem.run Yba.prog (callFunc 15 args) w = .ok (.enter 15 args) w := by kernel_rfl
def Best (p : Int → Bool) (xs : List Int) (fb : Bool) (bv : Int) : Prop := (fb = false ∧ ∀ x ∈ xs, p x = true) ∨ (fb = true ∧ bv ∈ xs ∧ p bv = false ∧ ∀ x ∈ xs, p x = false → x ≤ bv)
theorem Best.no {p : Int → Bool} {xs : List Int} {fb : Bool} {bv y : Int} (h : Best p xs fb bv) (hy : p y = true) : Best p (xs ++ [y]) fb bv := by
  rcases h with ⟨h1, h2⟩ | ⟨h1, h2, h3, h4⟩
  · refine .inl ⟨h1, fun x hx => ?_⟩
    rcases List.mem_append.1 hx with h | h
    · exact h2 x h
    · simp at h; subst h; exact hy
  · refine .inr ⟨h1, by simp [h2], h3, fun x hx hp => ?_⟩
    rcases List.mem_append.1 hx with h | h
    · exact h4 x h hp
    · simp at h; subst h; rw [hy] at hp; cases hp
theorem Best.yes {p : Int → Bool} {xs : List Int} {fb : Bool} {bv y : Int} (h : Best p xs fb bv) (hy : p y = false) (hc : fb = false ∨ bv < y) : Best p (xs ++ [y]) true y := by
  refine .inr ⟨rfl, by simp, hy, fun x hx hp => ?_⟩
  rcases List.mem_append.1 hx with h' | h'
  · rcases h with ⟨h1, h2⟩ | ⟨h1, h2, h3, h4⟩
    · rw [h2 x h'] at hp; cases hp
    · rcases hc with e | e
      · rw [h1] at e; cases e
      · have := h4 x h' hp; omega
  · simp at h'; subst h'; exact Int.le_refl _
theorem Best.keep {p : Int → Bool} {xs : List Int} {bv y : Int} (h : Best p xs true bv) (hc : ¬ bv < y) : Best p (xs ++ [y]) true bv := by
  rcases h with ⟨h1, h2⟩ | ⟨h1, h2, h3, h4⟩
  · cases h1
  · refine .inr ⟨rfl, by simp [h2], h3, fun x hx hp => ?_⟩
    rcases List.mem_append.1 hx with h | h
    · exact h4 x h hp
    · simp at h; subst h; omega
theorem take_next (ys : List Int) (j : Nat) (hj : j < ys.length) : ys.take (j + 1) = ys.take j ++ [ys.getD j 0] := by
  rw [List.take_add_one, List.getD_eq_getElem?_getD, List.getElem?_eq_getElem hj]; rfl
set_option maxRecDepth 20000 in
set_option maxHeartbeats 6400000 in
set_option linter.unusedSimpArgs false in
theorem backward (a0 : Option Addr) (len0 cap0 : Nat) (z0 : List Int) (q pk : Int) (at_ : Bool) (w : World) (hc : Came w a0 len0 z0) :
    Calls Yba.prog 4 #[.slice a0 len0 cap0, .int .i64 q, .int .i64 pk, .bool at_] w fun e w' => e = .returned (.bool true) ∧ Below w.heap.size w w' := by
  by_cases hlen : 300 < len0
  · have b1 : (300 : Int) < (len0 : Int) := by omega
    go_enter Yba.func4, Yba.ntmps4
    go_wp2_with fail
    go_ret
    exact ⟨rfl, Below.refl _ _⟩
  have b1 : ¬ (300 : Int) < (len0 : Int) := by omega
  obtain ⟨N, hN⟩ : ∃ N, N = w.heap.size := ⟨_, rfl⟩
  have hBd := build insert a0 len0 cap0 z0 w hc (by omega)
  rw [← hN] at hBd ⊢
  have HN : Hid (N = w.heap.size) := hN
  clear hN
  go_enter Yba.func4, Yba.ntmps4
  go_wp2_with (first | (go_at_call 7; refine hBd.mono ?_; rintro e w1 ⟨tb, sv, rfl, mb, sh, L, ys, hT, hown, hmem, hyl, hfr⟩) | (go_at_call 13; refine (snapshot _ _ _).mono ?_; rintro e w2 ⟨rfl, k2⟩))
  obtain ⟨C1, hC1⟩ : ∃ C1, C1 = w2.heap.size := ⟨_, rfl⟩
  rw [← hC1]
  generalize hX : w2.alloc (.cells #[.int .u64 2, .int .u8 1, .int .u64 3] 31) = X
  have kX : Kp [] w1 X := by rw [← hX]; exact k2.alloc _
  have zC : X.heap[C1]? = some (.cells (VwC 2 1 3) 31) := by rw [← hX]; exact heap_alloc_at _ _ hC1
  clear hX hC1 hBd
  have TX : Tbl N X tb mb sh L := hT.kp kX (by simp)
  obtain ⟨⟨mc, om⟩, _⟩ := TX.rep.old
  have lmb := lt_of om
  have nC : C1 ≠ mb := ne_kind zC om (by decide)
  have nT : tb ≠ mb := ne_kind TX.tab om (by decide)
  have KV : Hid (∀ w', Kp [mb] X w' → w'.cell? ⟨C1, 0, none⟩ = some (.int .u64 2) ∧ w'.cell? ⟨C1, 1, none⟩ = some (.int .u8 1) ∧ w'.cell? ⟨C1, 2, none⟩ = some (.int .u64 3)) := by
    intro w' h
    have e := h.at zC (by simp; exact nC)
    exact ⟨by rw [cell_of e]; rfl, by rw [cell_of e]; rfl, by rw [cell_of e]; rfl⟩
  have HR : Hid (∀ w', Kp [] X w' → Rep N w' mb sh L) := fun w' h => TX.rep.kp h (by simp)
  have HTab : Hid (∀ w', Kp [mb] X w' → w'.heap[tb]? = some (.cells (TC mb) 56)) := fun w' h => h.at TX.tab (by simp; exact nT)
  have HS : Hid (Srt L) := TX.srt
  have frX : FrV N w X := hfr.trans (FrV.of kX (by simp))
  have ownX : X.ownsRow N 2 1 sv ys.length (ys.map (Value.int .i64)) := own_frv hown (FrV.of kX (by simp))
  have OwnX : Hid (X.ownsRow N 2 1 sv ys.length (ys.map (Value.int .i64))) := ownX
  have Hmem : Hid (∀ x, x ∈ keysOf L ↔ x ∈ ys) := hmem
  have FrX : Hid (FrV N w X) := frX
  clear hT hown hfr kX k2 ownX hmem frX TX zC
  go_cut [12] (fun s12 wx => ∃ (kb l i : Nat) (lp ip : Int), s12 = P kb ∧ wx.heap[kb]? = some (.cells (WC tb mb 2 1 3 true lp ip sh) 40) ∧ Pos (fromP q at_) L l i ∧ PrevOf L l i lp ip ∧ Kp [mb] X wx ∧ Rep N wx mb sh L ∧ X.heap.size ≤ kb)
  case first => as_aux_lemma =>
    refine wp_region_held_drew (S := (fun w' => w'.cell? ⟨C1, 0, none⟩ = some (.int .u64 2) ∧ w'.cell? ⟨C1, 1, none⟩ = some (.int .u8 1) ∧ w'.cell? ⟨C1, 2, none⟩ = some (.int .u64 3))) (by kernel_rfl) (KV.out _ (Kp.refl _ _).drew) (fun hHeld => ?_)
    revert hHeld
    generalize hE0 : X.drew = Y0
    intro hHeld
    have kz0 : Kp [] X Y0 := by rw [← hE0]; exact (Kp.refl _ _).drew
    have k0 : Kp [mb] X Y0 := kz0.any
    clear hE0
    refine wpAnyH_take (i := 0) (oi := { dst := some 27, op := Go.Op.move (Go.Operand.tmp 9), type := 23, pos := "zz_law_s4471a.go:72", after := #[], guard := none }) (v := ?vv5_0_1) rfl (by kernel_rfl) (by kernel_rfl) (by kernel_rfl) (fun _ _ _ h => h) (Or.inl ⟨by rfl, ?hy5_0_1⟩) hHeld ?re5_0_1
    case hy5_0_1 => (intro w hSw; (try dsimp only at hSw); go_simp; try with_reducible rfl)
    try simp only [Act.put, List.setIfInBounds_toArray, List.set_cons_zero, List.set_cons_succ]
    refine wpAnyH_take (i := 1) (oi := { dst := some 28, op := Go.Op.load 31 (Go.Operand.tmp 11), type := 31, pos := "zz_law_s4471a.go:72", after := #[], guard := none }) (v := ?vv5_1_2) rfl (by kernel_rfl) (by kernel_rfl) (by kernel_rfl) (fun _ _ _ h => h) (Or.inl ⟨by rfl, ?hy5_1_2⟩) hHeld ?re5_1_2
    case hy5_1_2 => (intro w hSw; (try dsimp only at hSw); go_simp; try with_reducible rfl)
    try simp only [Act.put, List.setIfInBounds_toArray, List.set_cons_zero, List.set_cons_succ]
    refine wpAnyH_take (i := 2) (oi := { dst := some 29, op := Go.Op.move (Go.Operand.tmp 1), type := 2, pos := "zz_law_s4471a.go:72", after := #[], guard := none }) (v := ?vv5_2_3) rfl (by kernel_rfl) (by kernel_rfl) (by kernel_rfl) (fun _ _ _ h => h) (Or.inl ⟨by rfl, ?hy5_2_3⟩) hHeld ?re5_2_3
    case hy5_2_3 => (intro w hSw; (try dsimp only at hSw); go_simp; try with_reducible rfl)
    try simp only [Act.put, List.setIfInBounds_toArray, List.set_cons_zero, List.set_cons_succ]
    refine wpAnyH_take (i := 4) (oi := { dst := some 31, op := Go.Op.move (Go.Operand.tmp 2), type := 2, pos := "zz_law_s4471a.go:72", after := #[], guard := none }) (v := ?vv5_4_4) rfl (by kernel_rfl) (by kernel_rfl) (by kernel_rfl) (fun _ _ _ h => h) (Or.inl ⟨by rfl, ?hy5_4_4⟩) hHeld ?re5_4_4
    case hy5_4_4 => (intro w hSw; (try dsimp only at hSw); go_simp; try with_reducible rfl)
    try simp only [Act.put, List.setIfInBounds_toArray, List.set_cons_zero, List.set_cons_succ]
    refine wpAnyH_take (i := 7) (oi := { dst := some 34, op := Go.Op.move (Go.Operand.tmp 3), type := 4, pos := "zz_law_s4471a.go:72", after := #[], guard := none }) (v := ?vv5_7_5) rfl (by kernel_rfl) (by kernel_rfl) (by kernel_rfl) (fun _ _ _ h => h) (Or.inl ⟨by rfl, ?hy5_7_5⟩) hHeld ?re5_7_5
    case hy5_7_5 => (intro w hSw; (try dsimp only at hSw); go_simp; try with_reducible rfl)
    try simp only [Act.put, List.setIfInBounds_toArray, List.set_cons_zero, List.set_cons_succ]
    refine wpAnyH_ready (rs := [3, 9]) (by kernel_rfl) (by simp) ?_
    refine AllReadyH.cons (o := { dst := some 30, op := Go.Op.call { callee := Go.Callee.value (Go.Operand.func 10), args := #[Go.Operand.tmp 29], argTypes := #[2] }, type := 44, pos := "zz_law_s4471a.go:72", after := #[{ on := 2, ground := Go.Ground.data }], guard := none }) rfl (fun K hK => ?_) ?_
    · skip
      go_simp
      refine (intV q _).mono ?_
      rintro e Y1 ⟨rfl, j1⟩
      have k1 : Kp [mb] X Y1 := k0.trans j1.any
      have kz1 : Kp [] X Y1 := kz0.trans j1
      clear hHeld
      refine hK.out _ _ (KV.out _ k1) (fun hHeld => ?_)
      clear hK K
      try simp only [Act.put, List.setIfInBounds_toArray, List.set_cons_zero, List.set_cons_succ]
      refine wpAnyH_ready (rs := [5, 9]) (by kernel_rfl) (by simp) ?_
      refine AllReadyH.cons (o := { dst := some 32, op := Go.Op.call { callee := Go.Callee.value (Go.Operand.func 10), args := #[Go.Operand.tmp 31], argTypes := #[2] }, type := 44, pos := "zz_law_s4471a.go:72", after := #[{ on := 4, ground := Go.Ground.data }, { on := 3, ground := Go.Ground.chain }], guard := none }) rfl (fun K hK => ?_) ?_
      · skip
        go_simp
        refine (intV pk _).mono ?_
        rintro e Y2 ⟨rfl, j2⟩
        have k2 : Kp [mb] X Y2 := k1.trans j2.any
        have kz2 : Kp [] X Y2 := kz1.trans j2
        clear hHeld
        refine hK.out _ _ (KV.out _ k2) (fun hHeld => ?_)
        clear hK K
        try simp only [Act.put, List.setIfInBounds_toArray, List.set_cons_zero, List.set_cons_succ]
        refine wpAnyH_take (i := 6) (oi := { dst := some 33, op := Go.Op.build 47 #[(0, Go.Operand.const (Go.Value.int Go.IntKind.i64 0)), (1, Go.Operand.tmp 30), (2, Go.Operand.tmp 32)], type := 47, pos := "zz_law_s4471a.go:72", after := #[{ on := 3, ground := Go.Ground.data }, { on := 5, ground := Go.Ground.data }], guard := none }) (v := Value.agg (PlC q pk)) rfl (by kernel_rfl) (by kernel_rfl) (by kernel_rfl) (fun _ _ _ h => h) (Or.inl ⟨by rfl, fun w _ => yields47 30 32 q pk w _ _ rfl rfl rfl⟩) hHeld ?_
        try simp only [Act.put, List.setIfInBounds_toArray, List.set_cons_zero, List.set_cons_succ]
        refine wpAnyH_ready (rs := [8, 9]) (by kernel_rfl) (by simp) ?_
        refine AllReadyH.cons (o := { dst := some 35, op := Go.Op.call { callee := Go.Callee.value (Go.Operand.func 9), args := #[Go.Operand.tmp 27, Go.Operand.tmp 28, Go.Operand.tmp 33, Go.Operand.tmp 34, Go.Operand.const (Go.Value.bool true)], argTypes := #[23, 31, 47, 4, 4] }, type := 40, pos := "zz_law_s4471a.go:72", after := #[{ on := 0, ground := Go.Ground.data }, { on := 1, ground := Go.Ground.data }, { on := 6, ground := Go.Ground.data }, { on := 7, ground := Go.Ground.data }, { on := 5, ground := Go.Ground.chain }], guard := none }) rfl (fun K hK => ?_) ?_
        · skip
          go_simp
          refine (fromB N tb mb sh 2 1 3 q pk at_ L Y2 (HR.out _ kz2) HS.out (HTab.out _ k2)).mono ?_
          rintro e Y3 ⟨l, i, lp, ip, rfl, hPos, hPr, j3, hR3⟩
          have k3 : Kp [mb] X Y3 := k2.trans j3
          have HRl : Hid (Rep N Y3 mb sh L) := hR3
          clear hR3
          clear hHeld
          refine hK.out _ _ (KV.out _ k3) (fun hHeld => ?_)
          clear hK K
          try simp only [Act.put, List.setIfInBounds_toArray, List.set_cons_zero, List.set_cons_succ]
          refine wpAnyH_ready (rs := [9]) (by kernel_rfl) (by simp) ?_
          refine AllReadyH.cons (o := { dst := some 12, op := Go.Op.alloc 40, type := 0, pos := "zz_law_s4471a.go:72", after := #[], guard := none }) rfl (fun K hK => ?_) AllReadyH.nil
          obtain ⟨kb, hkb⟩ : ∃ kb, kb = Y3.heap.size := ⟨_, rfl⟩
          go_simp
          rw [← hkb]
          generalize hE : Y3.alloc _ = Y4
          have zk : Y4.heap[kb]? = some (.cells WZ 40) := by rw [← hE]; exact heap_alloc_at _ _ hkb
          have k4 : Kp [mb] X Y4 := by rw [← hE]; exact k3.alloc _
          have gek : X.heap.size ≤ kb := by rw [hkb]; exact k3.size
          have jA : Kp [] Y3 Y4 := by rw [← hE]; exact (Kp.refl _ _).alloc _
          clear hE hkb
          have HRn : Hid (Rep N Y4 mb sh L) := HRl.out.kp jA (by simp)
          clear HRl
          have HRl := HRn
          clear HRn
          clear hHeld
          refine hK.out _ _ (KV.out _ k4) (fun hHeld => ?_)
          clear hK K
          try simp only [Act.put, List.setIfInBounds_toArray, List.set_cons_zero, List.set_cons_succ]
          refine wpAnyH_ready (rs := [10]) (by kernel_rfl) (by simp) ?_
          refine AllReadyH.cons (o := { dst := none, op := Go.Op.store 40 (Go.Operand.tmp 12) (Go.Operand.tmp 35), type := 0, pos := "zz_law_s4471a.go:72", after := #[{ on := 9, ground := Go.Ground.data }, { on := 8, ground := Go.Ground.data }, { on := 8, ground := Go.Ground.chain }, { on := 0, ground := Go.Ground.phase }, { on := 1, ground := Go.Ground.phase }, { on := 2, ground := Go.Ground.phase }, { on := 3, ground := Go.Ground.phase }, { on := 4, ground := Go.Ground.phase }, { on := 5, ground := Go.Ground.phase }, { on := 6, ground := Go.Ground.phase }, { on := 7, ground := Go.Ground.phase }, { on := 8, ground := Go.Ground.phase }, { on := 9, ground := Go.Ground.phase }], guard := none }) rfl (fun K hK => ?_) AllReadyH.nil
          refine step_store_whole rfl 40 (.tmp 12) (.tmp 35) rfl kb (WC tb mb 2 1 3 true lp ip sh) rfl rfl 40 WZ zk info40 rfl (by simp [Value.oneCell']) ?_
          intro Y5 zf j5
          have k5 : Kp [mb] X Y5 := k4.new j5 (by simp; omega)
          clear hHeld
          refine hK.out _ _ (KV.out _ k5) (fun hHeld => ?_)
          clear hK K
          try simp only [Act.put, List.setIfInBounds_toArray, List.set_cons_zero, List.set_cons_succ]
          refine wpAnyH_done (by kernel_rfl) ?_ _
          clear hHeld
          go_wp2_with fail
          go_meet
          case rel =>
            have hRF : Rep N Y5 mb sh L := (HRl.out).kp j5 (by simp; exact ⟨_, _, zk, by decide, by decide, by decide, by decide, by decide⟩)
            exact ⟨kb, l, i, lp, ip, rfl, zf, hPos, hPr, k5, hRF, gek⟩
        refine AllReadyH.cons (o := { dst := some 12, op := Go.Op.alloc 40, type := 0, pos := "zz_law_s4471a.go:72", after := #[], guard := none }) rfl (fun K hK => ?_) AllReadyH.nil
        · skip
          obtain ⟨kb, hkb⟩ : ∃ kb, kb = Y2.heap.size := ⟨_, rfl⟩
          go_simp
          rw [← hkb]
          generalize hE : Y2.alloc _ = Y3
          have zk : Y3.heap[kb]? = some (.cells WZ 40) := by rw [← hE]; exact heap_alloc_at _ _ hkb
          have k3 : Kp [mb] X Y3 := by rw [← hE]; exact k2.alloc _
          have gek : X.heap.size ≤ kb := by rw [hkb]; exact k2.size
          have kz3 : Kp [] X Y3 := by rw [← hE]; exact kz2.alloc _
          clear hE hkb
          clear hHeld
          refine hK.out _ _ (KV.out _ k3) (fun hHeld => ?_)
          clear hK K
          try simp only [Act.put, List.setIfInBounds_toArray, List.set_cons_zero, List.set_cons_succ]
          refine wpAnyH_ready (rs := [8]) (by kernel_rfl) (by simp) ?_
          refine AllReadyH.cons (o := { dst := some 35, op := Go.Op.call { callee := Go.Callee.value (Go.Operand.func 9), args := #[Go.Operand.tmp 27, Go.Operand.tmp 28, Go.Operand.tmp 33, Go.Operand.tmp 34, Go.Operand.const (Go.Value.bool true)], argTypes := #[23, 31, 47, 4, 4] }, type := 40, pos := "zz_law_s4471a.go:72", after := #[{ on := 0, ground := Go.Ground.data }, { on := 1, ground := Go.Ground.data }, { on := 6, ground := Go.Ground.data }, { on := 7, ground := Go.Ground.data }, { on := 5, ground := Go.Ground.chain }], guard := none }) rfl (fun K hK => ?_) AllReadyH.nil
          go_simp
          refine (fromB N tb mb sh 2 1 3 q pk at_ L Y3 (HR.out _ kz3) HS.out (HTab.out _ k3)).mono ?_
          rintro e Y4 ⟨l, i, lp, ip, rfl, hPos, hPr, j4, hR4⟩
          have k4 : Kp [mb] X Y4 := k3.trans j4
          replace zk := j4.at zk (by simp; omega)
          have HRl : Hid (Rep N Y4 mb sh L) := hR4
          clear hR4
          clear hHeld
          refine hK.out _ _ (KV.out _ k4) (fun hHeld => ?_)
          clear hK K
          try simp only [Act.put, List.setIfInBounds_toArray, List.set_cons_zero, List.set_cons_succ]
          refine wpAnyH_ready (rs := [10]) (by kernel_rfl) (by simp) ?_
          refine AllReadyH.cons (o := { dst := none, op := Go.Op.store 40 (Go.Operand.tmp 12) (Go.Operand.tmp 35), type := 0, pos := "zz_law_s4471a.go:72", after := #[{ on := 9, ground := Go.Ground.data }, { on := 8, ground := Go.Ground.data }, { on := 8, ground := Go.Ground.chain }, { on := 0, ground := Go.Ground.phase }, { on := 1, ground := Go.Ground.phase }, { on := 2, ground := Go.Ground.phase }, { on := 3, ground := Go.Ground.phase }, { on := 4, ground := Go.Ground.phase }, { on := 5, ground := Go.Ground.phase }, { on := 6, ground := Go.Ground.phase }, { on := 7, ground := Go.Ground.phase }, { on := 8, ground := Go.Ground.phase }, { on := 9, ground := Go.Ground.phase }], guard := none }) rfl (fun K hK => ?_) AllReadyH.nil
          refine step_store_whole rfl 40 (.tmp 12) (.tmp 35) rfl kb (WC tb mb 2 1 3 true lp ip sh) rfl rfl 40 WZ zk info40 rfl (by simp [Value.oneCell']) ?_
          intro Y5 zf j5
          have k5 : Kp [mb] X Y5 := k4.new j5 (by simp; omega)
          clear hHeld
          refine hK.out _ _ (KV.out _ k5) (fun hHeld => ?_)
          clear hK K
          try simp only [Act.put, List.setIfInBounds_toArray, List.set_cons_zero, List.set_cons_succ]
          refine wpAnyH_done (by kernel_rfl) ?_ _
          clear hHeld
          go_wp2_with fail
          go_meet
          case rel =>
            have hRF : Rep N Y5 mb sh L := (HRl.out).kp j5 (by simp; exact ⟨_, _, zk, by decide, by decide, by decide, by decide, by decide⟩)
            exact ⟨kb, l, i, lp, ip, rfl, zf, hPos, hPr, k5, hRF, gek⟩
      refine AllReadyH.cons (o := { dst := some 12, op := Go.Op.alloc 40, type := 0, pos := "zz_law_s4471a.go:72", after := #[], guard := none }) rfl (fun K hK => ?_) AllReadyH.nil
      · skip
        obtain ⟨kb, hkb⟩ : ∃ kb, kb = Y1.heap.size := ⟨_, rfl⟩
        go_simp
        rw [← hkb]
        generalize hE : Y1.alloc _ = Y2
        have zk : Y2.heap[kb]? = some (.cells WZ 40) := by rw [← hE]; exact heap_alloc_at _ _ hkb
        have k2 : Kp [mb] X Y2 := by rw [← hE]; exact k1.alloc _
        have gek : X.heap.size ≤ kb := by rw [hkb]; exact k1.size
        have kz2 : Kp [] X Y2 := by rw [← hE]; exact kz1.alloc _
        clear hE hkb
        clear hHeld
        refine hK.out _ _ (KV.out _ k2) (fun hHeld => ?_)
        clear hK K
        try simp only [Act.put, List.setIfInBounds_toArray, List.set_cons_zero, List.set_cons_succ]
        refine wpAnyH_ready (rs := [5]) (by kernel_rfl) (by simp) ?_
        refine AllReadyH.cons (o := { dst := some 32, op := Go.Op.call { callee := Go.Callee.value (Go.Operand.func 10), args := #[Go.Operand.tmp 31], argTypes := #[2] }, type := 44, pos := "zz_law_s4471a.go:72", after := #[{ on := 4, ground := Go.Ground.data }, { on := 3, ground := Go.Ground.chain }], guard := none }) rfl (fun K hK => ?_) AllReadyH.nil
        go_simp
        refine (intV pk _).mono ?_
        rintro e Y3 ⟨rfl, j3⟩
        have k3 : Kp [mb] X Y3 := k2.trans j3.any
        have kz3 : Kp [] X Y3 := kz2.trans j3
        replace zk := j3.at zk (by simp)
        clear hHeld
        refine hK.out _ _ (KV.out _ k3) (fun hHeld => ?_)
        clear hK K
        try simp only [Act.put, List.setIfInBounds_toArray, List.set_cons_zero, List.set_cons_succ]
        refine wpAnyH_take (i := 6) (oi := { dst := some 33, op := Go.Op.build 47 #[(0, Go.Operand.const (Go.Value.int Go.IntKind.i64 0)), (1, Go.Operand.tmp 30), (2, Go.Operand.tmp 32)], type := 47, pos := "zz_law_s4471a.go:72", after := #[{ on := 3, ground := Go.Ground.data }, { on := 5, ground := Go.Ground.data }], guard := none }) (v := Value.agg (PlC q pk)) rfl (by kernel_rfl) (by kernel_rfl) (by kernel_rfl) (fun _ _ _ h => h) (Or.inl ⟨by rfl, fun w _ => yields47 30 32 q pk w _ _ rfl rfl rfl⟩) hHeld ?_
        try simp only [Act.put, List.setIfInBounds_toArray, List.set_cons_zero, List.set_cons_succ]
        refine wpAnyH_ready (rs := [8]) (by kernel_rfl) (by simp) ?_
        refine AllReadyH.cons (o := { dst := some 35, op := Go.Op.call { callee := Go.Callee.value (Go.Operand.func 9), args := #[Go.Operand.tmp 27, Go.Operand.tmp 28, Go.Operand.tmp 33, Go.Operand.tmp 34, Go.Operand.const (Go.Value.bool true)], argTypes := #[23, 31, 47, 4, 4] }, type := 40, pos := "zz_law_s4471a.go:72", after := #[{ on := 0, ground := Go.Ground.data }, { on := 1, ground := Go.Ground.data }, { on := 6, ground := Go.Ground.data }, { on := 7, ground := Go.Ground.data }, { on := 5, ground := Go.Ground.chain }], guard := none }) rfl (fun K hK => ?_) AllReadyH.nil
        go_simp
        refine (fromB N tb mb sh 2 1 3 q pk at_ L Y3 (HR.out _ kz3) HS.out (HTab.out _ k3)).mono ?_
        rintro e Y4 ⟨l, i, lp, ip, rfl, hPos, hPr, j4, hR4⟩
        have k4 : Kp [mb] X Y4 := k3.trans j4
        replace zk := j4.at zk (by simp; omega)
        have HRl : Hid (Rep N Y4 mb sh L) := hR4
        clear hR4
        clear hHeld
        refine hK.out _ _ (KV.out _ k4) (fun hHeld => ?_)
        clear hK K
        try simp only [Act.put, List.setIfInBounds_toArray, List.set_cons_zero, List.set_cons_succ]
        refine wpAnyH_ready (rs := [10]) (by kernel_rfl) (by simp) ?_
        refine AllReadyH.cons (o := { dst := none, op := Go.Op.store 40 (Go.Operand.tmp 12) (Go.Operand.tmp 35), type := 0, pos := "zz_law_s4471a.go:72", after := #[{ on := 9, ground := Go.Ground.data }, { on := 8, ground := Go.Ground.data }, { on := 8, ground := Go.Ground.chain }, { on := 0, ground := Go.Ground.phase }, { on := 1, ground := Go.Ground.phase }, { on := 2, ground := Go.Ground.phase }, { on := 3, ground := Go.Ground.phase }, { on := 4, ground := Go.Ground.phase }, { on := 5, ground := Go.Ground.phase }, { on := 6, ground := Go.Ground.phase }, { on := 7, ground := Go.Ground.phase }, { on := 8, ground := Go.Ground.phase }, { on := 9, ground := Go.Ground.phase }], guard := none }) rfl (fun K hK => ?_) AllReadyH.nil
        refine step_store_whole rfl 40 (.tmp 12) (.tmp 35) rfl kb (WC tb mb 2 1 3 true lp ip sh) rfl rfl 40 WZ zk info40 rfl (by simp [Value.oneCell']) ?_
        intro Y5 zf j5
        have k5 : Kp [mb] X Y5 := k4.new j5 (by simp; omega)
        clear hHeld
        refine hK.out _ _ (KV.out _ k5) (fun hHeld => ?_)
        clear hK K
        try simp only [Act.put, List.setIfInBounds_toArray, List.set_cons_zero, List.set_cons_succ]
        refine wpAnyH_done (by kernel_rfl) ?_ _
        clear hHeld
        go_wp2_with fail
        go_meet
        case rel =>
          have hRF : Rep N Y5 mb sh L := (HRl.out).kp j5 (by simp; exact ⟨_, _, zk, by decide, by decide, by decide, by decide, by decide⟩)
          exact ⟨kb, l, i, lp, ip, rfl, zf, hPos, hPr, k5, hRF, gek⟩
    refine AllReadyH.cons (o := { dst := some 12, op := Go.Op.alloc 40, type := 0, pos := "zz_law_s4471a.go:72", after := #[], guard := none }) rfl (fun K hK => ?_) AllReadyH.nil
    · skip
      obtain ⟨kb, hkb⟩ : ∃ kb, kb = Y0.heap.size := ⟨_, rfl⟩
      go_simp
      rw [← hkb]
      generalize hE : Y0.alloc _ = Y1
      have zk : Y1.heap[kb]? = some (.cells WZ 40) := by rw [← hE]; exact heap_alloc_at _ _ hkb
      have k1 : Kp [mb] X Y1 := by rw [← hE]; exact k0.alloc _
      have gek : X.heap.size ≤ kb := by rw [hkb]; exact k0.size
      have kz1 : Kp [] X Y1 := by rw [← hE]; exact kz0.alloc _
      clear hE hkb
      clear hHeld
      refine hK.out _ _ (KV.out _ k1) (fun hHeld => ?_)
      clear hK K
      try simp only [Act.put, List.setIfInBounds_toArray, List.set_cons_zero, List.set_cons_succ]
      refine wpAnyH_ready (rs := [3]) (by kernel_rfl) (by simp) ?_
      refine AllReadyH.cons (o := { dst := some 30, op := Go.Op.call { callee := Go.Callee.value (Go.Operand.func 10), args := #[Go.Operand.tmp 29], argTypes := #[2] }, type := 44, pos := "zz_law_s4471a.go:72", after := #[{ on := 2, ground := Go.Ground.data }], guard := none }) rfl (fun K hK => ?_) AllReadyH.nil
      go_simp
      refine (intV q _).mono ?_
      rintro e Y2 ⟨rfl, j2⟩
      have k2 : Kp [mb] X Y2 := k1.trans j2.any
      have kz2 : Kp [] X Y2 := kz1.trans j2
      replace zk := j2.at zk (by simp)
      clear hHeld
      refine hK.out _ _ (KV.out _ k2) (fun hHeld => ?_)
      clear hK K
      try simp only [Act.put, List.setIfInBounds_toArray, List.set_cons_zero, List.set_cons_succ]
      refine wpAnyH_ready (rs := [5]) (by kernel_rfl) (by simp) ?_
      refine AllReadyH.cons (o := { dst := some 32, op := Go.Op.call { callee := Go.Callee.value (Go.Operand.func 10), args := #[Go.Operand.tmp 31], argTypes := #[2] }, type := 44, pos := "zz_law_s4471a.go:72", after := #[{ on := 4, ground := Go.Ground.data }, { on := 3, ground := Go.Ground.chain }], guard := none }) rfl (fun K hK => ?_) AllReadyH.nil
      go_simp
      refine (intV pk _).mono ?_
      rintro e Y3 ⟨rfl, j3⟩
      have k3 : Kp [mb] X Y3 := k2.trans j3.any
      have kz3 : Kp [] X Y3 := kz2.trans j3
      replace zk := j3.at zk (by simp)
      clear hHeld
      refine hK.out _ _ (KV.out _ k3) (fun hHeld => ?_)
      clear hK K
      try simp only [Act.put, List.setIfInBounds_toArray, List.set_cons_zero, List.set_cons_succ]
      refine wpAnyH_take (i := 6) (oi := { dst := some 33, op := Go.Op.build 47 #[(0, Go.Operand.const (Go.Value.int Go.IntKind.i64 0)), (1, Go.Operand.tmp 30), (2, Go.Operand.tmp 32)], type := 47, pos := "zz_law_s4471a.go:72", after := #[{ on := 3, ground := Go.Ground.data }, { on := 5, ground := Go.Ground.data }], guard := none }) (v := Value.agg (PlC q pk)) rfl (by kernel_rfl) (by kernel_rfl) (by kernel_rfl) (fun _ _ _ h => h) (Or.inl ⟨by rfl, fun w _ => yields47 30 32 q pk w _ _ rfl rfl rfl⟩) hHeld ?_
      try simp only [Act.put, List.setIfInBounds_toArray, List.set_cons_zero, List.set_cons_succ]
      refine wpAnyH_ready (rs := [8]) (by kernel_rfl) (by simp) ?_
      refine AllReadyH.cons (o := { dst := some 35, op := Go.Op.call { callee := Go.Callee.value (Go.Operand.func 9), args := #[Go.Operand.tmp 27, Go.Operand.tmp 28, Go.Operand.tmp 33, Go.Operand.tmp 34, Go.Operand.const (Go.Value.bool true)], argTypes := #[23, 31, 47, 4, 4] }, type := 40, pos := "zz_law_s4471a.go:72", after := #[{ on := 0, ground := Go.Ground.data }, { on := 1, ground := Go.Ground.data }, { on := 6, ground := Go.Ground.data }, { on := 7, ground := Go.Ground.data }, { on := 5, ground := Go.Ground.chain }], guard := none }) rfl (fun K hK => ?_) AllReadyH.nil
      go_simp
      refine (fromB N tb mb sh 2 1 3 q pk at_ L Y3 (HR.out _ kz3) HS.out (HTab.out _ k3)).mono ?_
      rintro e Y4 ⟨l, i, lp, ip, rfl, hPos, hPr, j4, hR4⟩
      have k4 : Kp [mb] X Y4 := k3.trans j4
      replace zk := j4.at zk (by simp; omega)
      have HRl : Hid (Rep N Y4 mb sh L) := hR4
      clear hR4
      clear hHeld
      refine hK.out _ _ (KV.out _ k4) (fun hHeld => ?_)
      clear hK K
      try simp only [Act.put, List.setIfInBounds_toArray, List.set_cons_zero, List.set_cons_succ]
      refine wpAnyH_ready (rs := [10]) (by kernel_rfl) (by simp) ?_
      refine AllReadyH.cons (o := { dst := none, op := Go.Op.store 40 (Go.Operand.tmp 12) (Go.Operand.tmp 35), type := 0, pos := "zz_law_s4471a.go:72", after := #[{ on := 9, ground := Go.Ground.data }, { on := 8, ground := Go.Ground.data }, { on := 8, ground := Go.Ground.chain }, { on := 0, ground := Go.Ground.phase }, { on := 1, ground := Go.Ground.phase }, { on := 2, ground := Go.Ground.phase }, { on := 3, ground := Go.Ground.phase }, { on := 4, ground := Go.Ground.phase }, { on := 5, ground := Go.Ground.phase }, { on := 6, ground := Go.Ground.phase }, { on := 7, ground := Go.Ground.phase }, { on := 8, ground := Go.Ground.phase }, { on := 9, ground := Go.Ground.phase }], guard := none }) rfl (fun K hK => ?_) AllReadyH.nil
      refine step_store_whole rfl 40 (.tmp 12) (.tmp 35) rfl kb (WC tb mb 2 1 3 true lp ip sh) rfl rfl 40 WZ zk info40 rfl (by simp [Value.oneCell']) ?_
      intro Y5 zf j5
      have k5 : Kp [mb] X Y5 := k4.new j5 (by simp; omega)
      clear hHeld
      refine hK.out _ _ (KV.out _ k5) (fun hHeld => ?_)
      clear hK K
      try simp only [Act.put, List.setIfInBounds_toArray, List.set_cons_zero, List.set_cons_succ]
      refine wpAnyH_done (by kernel_rfl) ?_ _
      clear hHeld
      go_wp2_with fail
      go_meet
      case rel =>
        have hRF : Rep N Y5 mb sh L := (HRl.out).kp j5 (by simp; exact ⟨_, _, zk, by decide, by decide, by decide, by decide, by decide⟩)
        exact ⟨kb, l, i, lp, ip, rfl, zf, hPos, hPr, k5, hRF, gek⟩
  case rest =>
    rename World => Y
    obtain ⟨kb, l, i, lp, ip, rfl, zk, hPos, hPr, kY, hRY, gek⟩ := hcut
    have HPr : Hid (PrevOf L l i lp ip) := hPr
    clear hPr
    obtain ⟨v0, v1, v2⟩ := KV.out Y kY
    obtain ⟨ao, cap, hsv⟩ : ∃ ao cap, sv = .slice ao ys.length cap := by
      rcases OwnX.out.2 with ⟨h, h0⟩ | ⟨g, cap, cur, h, _⟩
      · exact ⟨none, 0, by rw [h, h0]⟩
      · exact ⟨_, _, h⟩
    obtain ⟨m, hm⟩ : ∃ m, m = ys.length := ⟨_, rfl⟩
    have ownY : Y.ownsRow N 2 1 (.slice ao m cap) m (ys.map (Value.int .i64)) := by
      have h := OwnX.out
      rw [hsv, ← hm] at h
      refine ownsRow_same h (fun x hx => ?_)
      obtain ⟨_, c, hc⟩ := own_kind h x (by simp [hx])
      exact kY.block _ (lt_of hc) (by simp; exact ne_kind hc om (by decide))
    subst hsv
    rw [← hm]
    have ycell : Hid (∀ i, i < m → ∃ g, ao = some ⟨g, 0, none⟩ ∧ Y.cell? ⟨g, i, none⟩ = some (.int .i64 (ys.getD i 0))) := by
      intro i hi
      obtain ⟨g, cap', h, _⟩ := ownY.form (by omega)
      simp at h
      refine ⟨g, h.1, ?_⟩
      have h2 := ownY
      rw [h.1] at h2
      rw [h2.cellAt i (by omega), List.getElem?_map, List.getElem?_eq_getElem (by omega)]
      simp [List.getD_eq_getElem?_getD, List.getElem?_eq_getElem (show i < ys.length by omega)]
    have w0 : Y.cell? ⟨kb, 0, none⟩ = some (P tb) := by rw [cell_of zk]; rfl
    have w1' : Y.cell? ⟨kb, 1, none⟩ = some (.int .u64 2) := by rw [cell_of zk]; rfl
    have w2' : Y.cell? ⟨kb, 2, none⟩ = some (.int .u8 1) := by rw [cell_of zk]; rfl
    have w3' : Y.cell? ⟨kb, 3, none⟩ = some (.int .u64 3) := by rw [cell_of zk]; rfl
    have w4 : Y.cell? ⟨kb, 4, none⟩ = some (.int .i64 0) := by rw [cell_of zk]; rfl
    have w5 : Y.cell? ⟨kb, 5, none⟩ = some (.bool true) := by rw [cell_of zk]; rfl
    have Hm : Hid (m = ys.length) := hm
    have m300 : m ≤ 300 := by omega
    have HPos : Hid (Pos (fromP q at_) L l i) := hPos
    have HRY : Hid (Rep N Y mb sh L) := hRY
    have Zk : Hid (Y.heap[kb]? = some (.cells (WC tb mb 2 1 3 true lp ip sh) 40)) := zk
    clear hm ownY OwnX hPos hRY zk
    go_wp2_with fail
    go_loopg [13, 14, 16, 58] m (fun g s13 s14 _ s58 wx => ∃ j : Nat, j ≤ m ∧ g = m - j ∧ s58 = .int .i64 j ∧ wx = Y ∧ ∃ (fb : Bool) (bv : Int), s13 = .bool fb ∧ s14 = .int .i64 bv ∧ Best (fromP q at_) (ys.take j) fb bv)
    case atStart => exact ⟨0, Nat.zero_le _, rfl, rfl, rfl, false, 0, rfl, rfl, .inl ⟨rfl, by simp⟩⟩
    case round =>
      obtain ⟨j, hj, rfl, rfl, rfl, fb, bv, rfl, rfl, hBest⟩ := hrel
      have HB : Hid (Best (fromP q at_) (ys.take j) fb bv) := hBest
      clear hBest
      by_cases hlt : j < m
      · obtain ⟨gb, rfl, hcy⟩ := ycell.out j hlt
        have b2 : (j : Int) < (m : Int) := by omega
        have hwj : IntKind.i64.wrap ((j : Int) + 1) = (j : Int) + 1 := by rw [IntKind.wrap_i64]; omega
        obtain ⟨y, hy⟩ : ∃ y, y = ys.getD j 0 := ⟨_, rfl⟩
        rw [← hy] at hcy
        have htk : ys.take (j + 1) = ys.take j ++ [y] := by rw [hy]; exact take_next ys j (by have := Hm.out; omega)
        have hpy := fromP_eq q at_ y
        have CB : (¬ y < q ∧ ¬ y = q ∧ Hid (Best (fromP q at_) (ys.take (j + 1)) fb bv)) ∨ (¬ y < q ∧ y = q ∧ at_ = true ∧ Hid (Best (fromP q at_) (ys.take (j + 1)) fb bv)) ∨
            (y < q ∧ fb = false ∧ Hid (Best (fromP q at_) (ys.take (j + 1)) true y)) ∨ (y < q ∧ fb = true ∧ bv < y ∧ Hid (Best (fromP q at_) (ys.take (j + 1)) true y)) ∨ (y < q ∧ fb = true ∧ ¬ bv < y ∧ Hid (Best (fromP q at_) (ys.take (j + 1)) true bv)) ∨
            (¬ y < q ∧ y = q ∧ at_ = false ∧ fb = false ∧ Hid (Best (fromP q at_) (ys.take (j + 1)) true y)) ∨ (¬ y < q ∧ y = q ∧ at_ = false ∧ fb = true ∧ bv < y ∧ Hid (Best (fromP q at_) (ys.take (j + 1)) true y)) ∨ (¬ y < q ∧ y = q ∧ at_ = false ∧ fb = true ∧ ¬ bv < y ∧ Hid (Best (fromP q at_) (ys.take (j + 1)) true bv)) := by
          rw [htk]
          have HBo := HB.out
          by_cases h1 : y < q
          · have hp : fromP q at_ y = false := by rw [hpy]; have h2 : ¬ q < y := by omega
                                                  have h3 : ¬ y = q := by omega
                                                  simp [h2, h3]
            cases fb with
            | false => exact .inr (.inr (.inl ⟨h1, rfl, HBo.yes hp (.inl rfl)⟩))
            | true =>
              by_cases h3 : bv < y
              · exact .inr (.inr (.inr (.inl ⟨h1, rfl, h3, HBo.yes hp (.inr h3)⟩)))
              · exact .inr (.inr (.inr (.inr (.inl ⟨h1, rfl, h3, HBo.keep h3⟩))))
          · by_cases h2 : y = q
            · cases at_ with
              | true => exact .inr (.inl ⟨h1, h2, rfl, HBo.no (by rw [hpy]; simp [h2])⟩)
              | false =>
                have hp : fromP q false y = false := by rw [hpy]; simp [h2]
                cases fb with
                | false => exact .inr (.inr (.inr (.inr (.inr (.inl ⟨h1, h2, rfl, rfl, HBo.yes hp (.inl rfl)⟩)))))
                | true =>
                  by_cases h3 : bv < y
                  · exact .inr (.inr (.inr (.inr (.inr (.inr (.inl ⟨h1, h2, rfl, rfl, h3, HBo.yes hp (.inr h3)⟩))))))
                  · exact .inr (.inr (.inr (.inr (.inr (.inr (.inr ⟨h1, h2, rfl, rfl, h3, HBo.keep h3⟩))))))
            · exact .inl ⟨h1, h2, HBo.no (by rw [hpy]; have h3 : q < y := by omega
                                             simp [h3])⟩
        clear hy htk hpy HB
        have FR : Hid (∀ (fb' : Bool) (bv' : Int), Hid (Best (fromP q at_) (ys.take (j + 1)) fb' bv') → ∃ (fb'' : Bool) (bv'' : Int), Value.bool fb' = .bool fb'' ∧ Value.int .i64 bv' = .int .i64 bv'' ∧ Best (fromP q at_) (ys.take (j + 1)) fb'' bv'') := fun fb' bv' h1 => ⟨fb', bv', rfl, rfl, h1.out⟩
        rcases CB with ⟨f1, f2, hBb⟩ | ⟨f1, f2, rfl, hBb⟩ | ⟨f1, rfl, hBb⟩ | ⟨f1, rfl, f3, hBb⟩ | ⟨f1, rfl, f3, hBb⟩ | ⟨f1, f2, rfl, rfl, hBb⟩ | ⟨f1, f2, rfl, rfl, f3, hBb⟩ | ⟨f1, f2, rfl, rfl, f3, hBb⟩
        · skip
          have e2 : (y == q) = false := by simpa using f2
          go_wp2_with fail
          go_roundg (m - (j + 1))
          case measure => omega
          case rel =>
            exact ⟨j + 1, by omega, rfl, by simp, rfl, FR.out _ _ hBb⟩
        · skip
          have e2 : (y == q) = true := by simp [f2]
          have Hf2 : Hid (y = q) := f2
          clear f2
          go_wp2_with fail
          go_roundg (m - (j + 1))
          case measure => omega
          case rel =>
            exact ⟨j + 1, by omega, rfl, by simp, rfl, FR.out _ _ hBb⟩
        · skip
          go_wp2_with fail
          go_roundg (m - (j + 1))
          case measure => omega
          case rel =>
            exact ⟨j + 1, by omega, rfl, by simp, rfl, FR.out _ _ hBb⟩
        · skip
          go_wp2_with fail
          go_roundg (m - (j + 1))
          case measure => omega
          case rel =>
            exact ⟨j + 1, by omega, rfl, by simp, rfl, FR.out _ _ hBb⟩
        · skip
          go_wp2_with fail
          go_roundg (m - (j + 1))
          case measure => omega
          case rel =>
            exact ⟨j + 1, by omega, rfl, by simp, rfl, FR.out _ _ hBb⟩
        · skip
          have e2 : (y == q) = true := by simp [f2]
          have Hf2 : Hid (y = q) := f2
          clear f2
          go_wp2_with fail
          go_roundg (m - (j + 1))
          case measure => omega
          case rel =>
            exact ⟨j + 1, by omega, rfl, by simp, rfl, FR.out _ _ hBb⟩
        · skip
          have e2 : (y == q) = true := by simp [f2]
          have Hf2 : Hid (y = q) := f2
          clear f2
          go_wp2_with fail
          go_roundg (m - (j + 1))
          case measure => omega
          case rel =>
            exact ⟨j + 1, by omega, rfl, by simp, rfl, FR.out _ _ hBb⟩
        · skip
          have e2 : (y == q) = true := by simp [f2]
          have Hf2 : Hid (y = q) := f2
          clear f2
          go_wp2_with fail
          go_roundg (m - (j + 1))
          case measure => omega
          case rel =>
            exact ⟨j + 1, by omega, rfl, by simp, rfl, FR.out _ _ hBb⟩
      · have b2 : ¬ (j : Int) < (m : Int) := by omega
        have hj2 : j = ys.length := by have := Hm.out; omega
        have HB2 : Hid (Best (fromP q at_) ys fb bv) := by have := HB.out; rw [hj2, List.take_length] at this; exact this
        clear hj2 HB
        have frY : Hid (FrV N w wr) := FrX.out.trans (FrV.of kY (by simp; exact .inr ⟨HRY.out.base, _, _, om, .inl (by decide)⟩))
        have hpos : ∀ x ∈ L, 0 < x.ks.length := by
          obtain ⟨_, _, _, _, hLv⟩ := HRY.out.has
          exact fun x hx => (hLv.leaf x hx).pos
        have k6 : wr.cell? ⟨kb, 6, none⟩ = some (P mb) := by rw [cell_of Zk.out]; rfl
        have k7 : wr.cell? ⟨kb, 7, none⟩ = some (.int .i64 lp) := by rw [cell_of Zk.out]; rfl
        have k8 : wr.cell? ⟨kb, 8, none⟩ = some (.int .i64 ip) := by rw [cell_of Zk.out]; rfl
        have k9 : wr.cell? ⟨kb, 9, none⟩ = some (.int .u64 sh) := by rw [cell_of Zk.out]; rfl
        cases fb with
        | true =>
          have hk : ∃ (l2 i2 : Nat) (hl : l2 < L.length) (hi : i2 < L[l2].ks.length), lp = l2 ∧ ip = i2 ∧ L[l2].ks[i2] = bv := by
            rcases HB2.out with ⟨h, _⟩ | ⟨_, h2, h3, h4⟩
            · cases h
            · obtain ⟨l2, i2, hl, hi, e1, e2, e3, e4⟩ := prev_key (fromP_mono q at_) HS.out hpos HPos.out HPr.out ((Hmem.out bv).2 h2) h3
              have e5 := e4 bv ((Hmem.out bv).2 h2) h3
              have e6 := h4 _ ((Hmem.out _).1 (key_mem hl hi)) e3
              exact ⟨l2, i2, hl, hi, e1, e2, by omega⟩
          obtain ⟨l2, i2, hl, hi, rfl, rfl, hkb⟩ := hk
          have hKey := key N mb l2 i2 sh sh L wr HRY.out hl hi
          rw [hkb] at hKey
          clear hkb hi hl hpos
          go_wp2_with fail
          refine hKey.mono ?_
          rintro e w3 ⟨rfl, k3⟩
          go_wp2_with fail
          refine (intV bv _).mono ?_
          rintro e w4 ⟨rfl, k4⟩
          go_wp2_with fail
          go_ret
          exact ⟨rfl, ((frY.out.trans (FrV.of k3 (by simp))).trans (FrV.of k4 (by simp))).below HN.out⟩
        | false =>
          have hall : ∀ y ∈ keysOf L, fromP q at_ y = true := by
            rcases HB2.out with ⟨_, h⟩ | ⟨h, _⟩
            · exact fun y hy => h y ((Hmem.out y).1 hy)
            · cases h
          have hz := first_all hpos HPos.out hall
          have hlp : lp = -1 ∧ ip = 0 := by
            rcases HPr.out with ⟨h1, _⟩ | ⟨_, h2, _⟩ | ⟨_, _, h3, h4⟩
            · omega
            · omega
            · exact ⟨h3, h4⟩
          obtain ⟨rfl, rfl⟩ := hlp
          have t0 := HTab.out wr kY
          have c2 : wr.cell? ⟨tb, 2, none⟩ = some (P mb) := by rw [cell_of t0]; rfl
          have hAf : After 15 #[] (fun _ => true) mb sh wr := ⟨enter15, fun w' _ _ x => always x w'⟩
          have hSk := seek N mb sh L 15 #[] (fun _ => true) wr HRY.out hAf HS.out (by intros; rfl)
          have lkb := lt_of Zk.out
          obtain ⟨mlv, mnr, omY, _⟩ := HRY.out.has
          have nkb : kb ≠ mb := ne_kind Zk.out omY (by decide)
          clear hz hall t0 hAf k6 k7 k8 k9
          go_wp2_with fail
          refine hSk.mono ?_
          rintro e w3 ⟨l0, i0, rfl, hP0, k3, hR3⟩
          obtain ⟨rfl, rfl⟩ := first_all hpos hP0 (fun _ _ => rfl)
          obtain ⟨D, hD⟩ : ∃ D, D = w3.heap.size := ⟨_, rfl⟩
          have fr3 : FrV N w w3 := frY.out.trans (FrV.of k3 (by simp; exact .inr ⟨HRY.out.base, _, _, omY, .inl (by decide)⟩))
          have geD : N ≤ D ∧ w.heap.size ≤ D := by have := fr3.size; have := HN.out; omega
          have zk3 := k3.at Zk.out (by simp; exact nkb)
          have lk3 := lt_of zk3
          obtain ⟨W3, hW3⟩ : ∃ W3, W3 = w3.alloc (.cells (CC mb (0 : Nat) (0 : Nat) sh) 35) := ⟨_, rfl⟩
          have z3 : W3.heap[D]? = some (.cells (CC mb (0 : Nat) (0 : Nat) sh) 35) := by rw [hW3]; exact heap_alloc_at _ _ hD
          have kk3 : Kp [] w3 W3 := by rw [hW3]; exact (Kp.refl _ _).alloc _
          have hRW : Rep N W3 mb sh L := hR3.kp kk3 (by simp)
          have zkW := kk3.at zk3 (by simp)
          have hPv := prevC N D mb 0 0 sh L W3 hRW z3 (Nat.zero_le _) (fun h => hpos _ (List.getElem_mem h)) (fun _ => rfl)
          have FRW : Hid (FrV N w W3) := fr3.trans (FrV.of kk3 (by simp))
          have nDk : kb ≠ D := by omega
          clear hSk hP0 k3 hR3 fr3 zk3 lk3 kk3 hRW hpos
          go_upto_region 21 with fail
          have hW4 : W3 = w3.alloc (.cells #[.pointer (some ⟨mb, 0, none⟩), .int .i64 0, .int .i64 0, .int .u64 sh] 35) := hW3
          rw [← hW4, ← hD]
          clear hW3 hW4 hD
          go_wp2_with fail
          refine hPv.mono ?_
          rintro e w4 ⟨rfl, k4, l', i', hPr4, z4⟩
          have e4 : l' = -1 ∧ i' = 0 := by
            rcases hPr4 with ⟨h1, _⟩ | ⟨_, h2, _⟩ | ⟨_, _, h3, h4⟩
            · omega
            · omega
            · exact ⟨h3, h4⟩
          obtain ⟨rfl, rfl⟩ := e4
          have zk4 := k4.at zkW (by simp; exact nDk)
          have g0 : w4.cell? ⟨D, 0, none⟩ = some (P mb) := by rw [cell_of z4]; rfl
          have g1 : w4.cell? ⟨D, 1, none⟩ = some (.int .i64 (-1)) := by rw [cell_of z4]; rfl
          have g2 : w4.cell? ⟨D, 2, none⟩ = some (.int .i64 0) := by rw [cell_of z4]; rfl
          have g3 : w4.cell? ⟨D, 3, none⟩ = some (.int .u64 sh) := by rw [cell_of z4]; rfl
          have k6 : w4.cell? ⟨kb, 6, none⟩ = some (P mb) := by rw [cell_of zk4]; rfl
          have k7 : w4.cell? ⟨kb, 7, none⟩ = some (.int .i64 (-1)) := by rw [cell_of zk4]; rfl
          have k8 : w4.cell? ⟨kb, 8, none⟩ = some (.int .i64 0) := by rw [cell_of zk4]; rfl
          have k9 : w4.cell? ⟨kb, 9, none⟩ = some (.int .u64 sh) := by rw [cell_of zk4]; rfl
          have FR4 : Hid (FrV N w w4) := FRW.out.ofNew k4 (fun b hb => by simp at hb; subst hb; exact geD)
          clear hPv hPr4 z4 k4 z3 zkW zk4
          go_wp2_with fail
          go_ret
          exact ⟨rfl, FR4.out.below HN.out⟩
end Go.Proofs.Ybulkcnom
