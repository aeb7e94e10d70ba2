/-
  Seat b4471a, Forward and Back: Write.
-/
import Derived.Test.YbulkcnomSet
import Derived.Test.YbulkcnomUntil
namespace Go.Proofs.Ybulkcnom
open Go.RowKit
attribute [local go_sem ↓] Go.wp_at_zero Go.wp_at_succ
/-- The values are versions. -/
def Ver (N : Nat) (w : World) (L : List Leaf) : Prop := ∀ v ∈ valsOf L, N ≤ v ∧ ∃ c0 c1 c2 c3 c4, w.heap[v]? = some (.cells #[c0, c1, c2, c3, .pointer c4] 99)
/-- What a Write may have turned. -/
structure FrV (N : Nat) (w w' : World) : Prop where
  os : w'.os = w.os
  tape : w'.tape = w.tape
  output : w'.output = w.output
  size : w.heap.size ≤ w'.heap.size
  low : ∀ b, b < w.heap.size → b < N → w'.heap[b]? = w.heap[b]?
  oth : ∀ (b : Nat) (c : Array Value) (t : TypeId), w.heap[b]? = some (Obj.cells c t) → mapT t = false → t ≠ 99 → w'.heap[b]? = some (Obj.cells c t)
theorem FrV.refl (N : Nat) (w : World) : FrV N w w := ⟨rfl, rfl, rfl, Nat.le_refl _, fun _ _ _ => rfl, fun _ _ _ h _ _ => h⟩
theorem FrV.trans {N : Nat} {a b c : World} (h : FrV N a b) (k : FrV N b c) : FrV N a c :=
  ⟨k.os.trans h.os, k.tape.trans h.tape, k.output.trans h.output, Nat.le_trans h.size k.size, fun i hi hn => (k.low i (Nat.lt_of_lt_of_le hi h.size) hn).trans (h.low i hi hn), fun i c t hi ht h9 => k.oth i c t (h.oth i c t hi ht h9) ht h9⟩
theorem Fr.frv {N : Nat} {w w' : World} (h : Fr N w w') : FrV N w w' := ⟨h.os, h.tape, h.output, h.size, h.low, fun b c t hb ht _ => h.oth b c t hb ht⟩
theorem FrV.of {N : Nat} {S : List Nat} {w w' : World} (h : Kp S w w') (hS : ∀ b ∈ S, w.heap.size ≤ b ∨ (N ≤ b ∧ ∃ c t, w.heap[b]? = some (.cells c t) ∧ (mapT t = true ∨ t = 99))) : FrV N w w' := by
  refine ⟨h.os, h.tape, h.output, h.size, fun b hb hn => h.block b hb (fun hm => ?_), fun b c t hb ht h9 => h.at hb (fun hm => ?_)⟩
  · rcases hS b hm with e | ⟨e, _⟩ <;> omega
  · have := lt_of hb
    rcases hS b hm with e | ⟨_, c', t', e, ht'⟩
    · omega
    · rw [hb] at e
      simp at e
      obtain ⟨_, rfl⟩ := e
      rcases ht' with h | h
      · rw [h] at ht; cases ht
      · exact h9 h
abbrev TC (mb : Nat) : Array Value := #[.int .i64 0, .bool true, P mb, .slice none 0 0]
/-- The table. -/
structure Tbl (N : Nat) (w : World) (tb mb : Nat) (sh : Int) (L : List Leaf) : Prop where
  tab : w.heap[tb]? = some (.cells (TC mb) 56)
  rep : Rep N w mb sh L
  srt : Srt L
  ver : Ver N w L
  lo : 0 ≤ sh
/-- What a Write leaves. -/
def Wrote (N tb mb : Nat) (sh k : Int) (L : List Leaf) (w w' : World) : Prop :=
  ∃ L' sh', Tbl N w' tb mb sh' L' ∧ sh' ≤ sh + 1 ∧ (∀ x, x ∈ keysOf L' ↔ x = k ∨ x ∈ keysOf L) ∧ (keysOf L').length ≤ (keysOf L).length + 1 ∧ FrV N w w'
theorem Ver.kp {N : Nat} {S : List Nat} {w w' : World} {L : List Leaf} (h : Ver N w L) (hk : Kp S w w') (hS : ∀ b ∈ S, ∃ c t, w.heap[b]? = some (.cells c t) ∧ t ≠ 99) : Ver N w' L := by
  intro v hv
  obtain ⟨hN, c0, c1, c2, c3, c4, hc⟩ := h v hv
  refine ⟨hN, c0, c1, c2, c3, c4, hk.at hc (fun hm => ?_)⟩
  obtain ⟨c, t, hb, ht⟩ := hS v hm
  rw [hc] at hb
  simp at hb
  exact ht hb.2.symm
/-- Behind Set. -/
theorem wrote_of {N tb mb v : Nat} {sh k : Int} {L : List Leaf} {w w4 w5 : World} (h0 : 0 ≤ sh) (htab : w4.heap[tb]? = some (.cells (TC mb) 56)) (hver : Ver N w4 L) (hv : N ≤ v ∧ ∃ c0 c1 c2 c3 c4, w4.heap[v]? = some (.cells #[c0, c1, c2, c3, .pointer c4] 99)) (hf : FrV N w w4) (h : Sets N mb sh k v L w4 w5) : Wrote N tb mb sh k L w w5 := by
  obtain ⟨L', sh', a1, a2, a3, a4, a5, a6, a7, a8⟩ := h
  refine ⟨L', sh', ⟨a8.oth _ _ _ htab (by decide), a1, a2, fun x hx => ?_, by omega⟩, a4, a5, a6, hf.trans a8.frv⟩
  have key : ∀ y, (N ≤ y ∧ ∃ c0 c1 c2 c3 c4, w4.heap[y]? = some (.cells #[c0, c1, c2, c3, .pointer c4] 99)) → (N ≤ y ∧ ∃ c0 c1 c2 c3 c4, w5.heap[y]? = some (.cells #[c0, c1, c2, c3, .pointer c4] 99)) := by
    rintro y ⟨hN, c0, c1, c2, c3, c4, hc⟩
    exact ⟨hN, c0, c1, c2, c3, c4, a8.oth _ _ _ hc (by decide)⟩
  rcases a7 x hx with rfl | h
  · exact key _ hv
  · exact key _ (hver x h)
set_option maxRecDepth 20000 in
set_option maxHeartbeats 1600000 in
theorem write (hIn : InsertSaid) (N tb mb : Nat) (sh k tx : Int) (L : List Leaf) (ra : Option Addr) (rl rc : Nat) (w : World) (hT : Tbl N w tb mb sh L) (h1 : sh < 100000) (few : (keysOf L).length < 300) :
    Calls Yba.prog 19 #[P tb, .int .u64 tx, V k, .slice ra rl rc] w fun e w' => (∃ a, e = .returned (.bool a)) ∧ Wrote N tb mb sh k L w w' := by
  have h0 := hT.lo
  have hN := hT.rep.base
  obtain ⟨⟨mc, om⟩, _⟩ := hT.rep.old
  obtain ⟨W, hW⟩ : ∃ W, W = w.alloc (.cells (VC k) 44) := ⟨_, rfl⟩
  obtain ⟨B, hB⟩ : ∃ B, B = w.heap.size := ⟨_, rfl⟩
  have hK : Kp [] w W := by rw [hW]; exact (Kp.refl _ _).alloc _
  have x0 : W.heap[B]? = some (.cells (VC k) 44) := by rw [hW, hB]; exact heap_alloc_same _ _
  have t0 := hK.at hT.tab (by simp)
  have hRW := hT.rep.kp hK (by simp)
  have lmb := lt_of om
  have hmbB : B ≠ mb := by omega
  have hmbT : tb ≠ mb := ne_kind hT.tab om (by decide)
  have H : ∀ w', Kp [mb] W w' → w'.cell? ⟨tb, 2, none⟩ = some (P mb) ∧ w'.cell? ⟨B, 0, none⟩ = some (.int .u8 1) ∧ w'.cell? ⟨B, 1, none⟩ = some (.int .i64 k) ∧ w'.cell? ⟨B, 2, none⟩ = some (.string ⟨#[]⟩) := by
    intro w' h
    have e0 := h.at t0 (by simp; exact hmbT)
    have e1 := h.at x0 (by simp; exact hmbB)
    exact ⟨by rw [cell_of e0]; rfl, by rw [cell_of e1]; rfl, by rw [cell_of e1]; rfl, by rw [cell_of e1]; rfl⟩
  have hG := get N mb sh k L W.drew (hRW.kp (Kp.refl [] _).drew (by simp)) hT.srt
  go_enter Yba.func19, Yba.ntmps19
  go_upto_region 1 with fail
  rw [← hW, ← hB]
  clear hW hB
  go_region_held3 (fun w' => w'.cell? ⟨tb, 2, none⟩ = some (P mb) ∧ w'.cell? ⟨B, 0, none⟩ = some (.int .u8 1) ∧ w'.cell? ⟨B, 1, none⟩ = some (.int .i64 k) ∧ w'.cell? ⟨B, 2, none⟩ = some (.string ⟨#[]⟩))
    (first | exact H _ (Kp.refl _ _).drew | exact H _ k1)
    (first | (go_at_call 29; refine hG.mono ?_; rintro e w1 ⟨p, rfl, hp, k1', hR1⟩; have k1 : Kp [mb] W w1 := (Kp.refl _ _).drew.trans k1'; clear k1'))
  have t1 := k1.at t0 (by simp; exact hmbT)
  have x1 := k1.at x0 (by simp; exact hmbB)
  have lx1 := lt_of x1
  have hKw : Kp [mb] w w1 := hK.any.trans k1
  have ver1 : Ver N w1 L := hT.ver.kp hKw (by simp; exact ⟨_, _, om, by decide⟩)
  have frw : FrV N w w1 := FrV.of hKw (by simp; exact .inr ⟨hN, _, _, om, .inl (by decide)⟩)
  have srt := hT.srt
  have sK := hKw.size
  have lw : N ≤ w1.heap.size := by have := lt_of om; omega
  clear hG H hRW t0 x0 hT
  obtain ⟨D, hD⟩ : ∃ D, D = w1.heap.size := ⟨_, rfl⟩
  cases p with
  | none =>
    obtain ⟨W2, hW2⟩ : ∃ W2, W2 = w1.alloc (.cells #[.slice ra rl rc, .int .u64 tx, .int .u64 0, .pointer none, .pointer none] 99) := ⟨_, rfl⟩
    have z2 : W2.heap[D]? = some (.cells #[.slice ra rl rc, .int .u64 tx, .int .u64 0, .pointer none, .pointer none] 99) := by rw [hW2]; exact heap_alloc_at _ _ hD
    have k2 : Kp [] w1 W2 := by rw [hW2]; exact (Kp.refl _ _).alloc _
    obtain ⟨W3, hW3⟩ : ∃ W3, W3 = W2.setCell ⟨D, 4, none⟩ (P D) := ⟨_, rfl⟩
    have k3 : Kp [D] w1 W3 := by rw [hW3]; exact k2.any.setCell (by simp) _
    have z3 : W3.heap[D]? = some (.cells #[.slice ra rl rc, .int .u64 tx, .int .u64 0, .pointer none, P D] 99) := by rw [hW3]; exact heap_setCell_same' _ z2
    have c4 : W2.cell? ⟨D, 4, none⟩ = some (.pointer none) := by rw [cell_of z2]; rfl
    have f4 : W2.frozen? ⟨D, 4, none⟩ = false := frozen_of z2
    have lD := lt_of t1
    have t3 := k3.at t1 (by simp; omega)
    have x3 := k3.at x1 (by simp; omega)
    have k13 : Kp [] w1 W3 := ⟨k3.os, k3.tape, k3.output, k3.size, fun i hi _ => k3.block i hi (by simp; omega)⟩
    have hR3 : Rep N W3 mb sh L := hR1.kp k13 (by simp)
    have ver3 : Ver N W3 L := ver1.kp k13 (by simp)
    have H3 : ∀ w', Kp [] W3 w' → w'.cell? ⟨tb, 2, none⟩ = some (P mb) ∧ w'.cell? ⟨B, 0, none⟩ = some (.int .u8 1) ∧ w'.cell? ⟨B, 1, none⟩ = some (.int .i64 k) ∧ w'.cell? ⟨B, 2, none⟩ = some (.string ⟨#[]⟩) := by
      intro w' h
      have e0 := h.at t3 (by simp)
      have e1 := h.at x3 (by simp)
      exact ⟨by rw [cell_of e0]; rfl, by rw [cell_of e1]; rfl, by rw [cell_of e1]; rfl, by rw [cell_of e1]; rfl⟩
    have hS := set_ hIn N mb D sh k L W3.drew (hR3.kp (Kp.refl [] _).drew (by simp)) srt h0 h1 few
    have FIN : Hid (∀ w5, Sets N mb sh k D L W3.drew w5 → Wrote N tb mb sh k L w w5) := fun w5 h => wrote_of (w4 := W3.drew) h0 t3 ver3 ⟨by omega, _, _, _, _, _, z3⟩ (frw.trans (FrV.of k13.drew (by simp))) h
    clear z2 z3 k2 k3 t1 x1 t3 x3 k13 hR3 ver3 hR1 ver1 k1 hK hKw hp srt frw
    go_upto_region 3 with fail
    rw [← hW2, ← hD]
    clear hW2 hD
    go_upto_region 6 with fail
    rw [← hW3]
    clear hW3
    refine wp_region_until (z := 6) (S := (fun w' => w'.cell? ⟨tb, 2, none⟩ = some (P mb) ∧ w'.cell? ⟨B, 0, none⟩ = some (.int .u8 1) ∧ w'.cell? ⟨B, 1, none⟩ = some (.int .i64 k) ∧ w'.cell? ⟨B, 2, none⟩ = some (.string ⟨#[]⟩))) (by kernel_rfl) (H3 _ (Kp.refl _ _).drew) (fun hHeld => ?_)
    refine wpAnyU_take (i := 4) (oi := { dst := some 47, op := Go.Op.load 44 (Go.Operand.tmp 6), type := 44, pos := "table.go:422", after := #[], guard := none }) (v := ?vv6_4_1) rfl (by kernel_rfl) (by kernel_rfl) (by kernel_rfl) (by kernel_rfl) (fun _ _ _ h => h) (Or.inl ⟨by rfl, ?hy6_4_1⟩) hHeld ?re6_4_1
    case hy6_4_1 => (intro w hSw; (try dsimp only at hSw); go_simp; try with_reducible rfl)
    try simp only [Act.put, List.setIfInBounds_toArray, List.set_cons_zero, List.set_cons_succ]
    refine wpAnyU_take (i := 5) (oi := { dst := some 48, op := Go.Op.move (Go.Operand.tmp 11), type := 49, pos := "table.go:422", after := #[], guard := none }) (v := ?vv6_5_2) rfl (by kernel_rfl) (by kernel_rfl) (by kernel_rfl) (by kernel_rfl) (fun _ _ _ h => h) (Or.inl ⟨by rfl, ?hy6_5_2⟩) hHeld ?re6_5_2
    case hy6_5_2 => (intro w hSw; (try dsimp only at hSw); go_simp; try with_reducible rfl)
    try simp only [Act.put, List.setIfInBounds_toArray, List.set_cons_zero, List.set_cons_succ]
    refine wpAnyU_ready (rs := [0]) (by kernel_rfl) (by simp) ?_
    refine AllReadyU.cons (o := { dst := some 43, op := Go.Op.move (Go.Operand.tmp 0), type := 23, pos := "table.go:422", after := #[], guard := none }) rfl (fun K hK => ?_) AllReadyU.nil
    go_simp
    clear hHeld
    refine hK.out _ _ (fun hz => H3 _ (Kp.refl _ _).drew) (fun hHeld => ?_)
    clear hK K
    replace hHeld := hHeld (by decide)
    try simp only [Act.put, List.setIfInBounds_toArray, List.set_cons_zero, List.set_cons_succ]
    refine wpAnyU_ready (rs := [1]) (by kernel_rfl) (by simp) ?_
    refine AllReadyU.cons (o := { dst := some 44, op := Go.Op.nilCheck (Go.Operand.tmp 43), type := 0, pos := "table.go:422", after := #[{ on := 0, ground := Go.Ground.data }], guard := none }) rfl (fun K hK => ?_) AllReadyU.nil
    go_simp
    clear hHeld
    refine hK.out _ _ (fun hz => H3 _ (Kp.refl _ _).drew) (fun hHeld => ?_)
    clear hK K
    replace hHeld := hHeld (by decide)
    try simp only [Act.put, List.setIfInBounds_toArray, List.set_cons_zero, List.set_cons_succ]
    refine wpAnyU_ready (rs := [2]) (by kernel_rfl) (by simp) ?_
    refine AllReadyU.cons (o := { dst := some 45, op := Go.Op.fieldAddr 56 (Go.Operand.tmp 44) 1, type := 0, pos := "table.go:422", after := #[{ on := 1, ground := Go.Ground.data }], guard := none }) rfl (fun K hK => ?_) AllReadyU.nil
    go_simp
    clear hHeld
    refine hK.out _ _ (fun hz => H3 _ (Kp.refl _ _).drew) (fun hHeld => ?_)
    clear hK K
    replace hHeld := hHeld (by decide)
    try simp only [Act.put, List.setIfInBounds_toArray, List.set_cons_zero, List.set_cons_succ]
    refine wpAnyU_take (i := 3) (oi := { dst := some 46, op := Go.Op.load 33 (Go.Operand.tmp 45), type := 33, pos := "table.go:422", after := #[{ on := 2, ground := Go.Ground.data }], guard := none }) (v := ?vv6_3_3) rfl (by kernel_rfl) (by kernel_rfl) (by kernel_rfl) (by kernel_rfl) (fun _ _ _ h => h) (Or.inl ⟨by rfl, ?hy6_3_3⟩) hHeld ?re6_3_3
    case hy6_3_3 => (intro w hSw; (try dsimp only at hSw); go_simp; try with_reducible rfl)
    try simp only [Act.put, List.setIfInBounds_toArray, List.set_cons_zero, List.set_cons_succ]
    refine wpAnyU_ready (rs := [6]) (by kernel_rfl) (by simp) ?_
    refine AllReadyU.cons (o := { dst := some 49, op := Go.Op.call { callee := Go.Callee.value (Go.Operand.func 30), args := #[Go.Operand.tmp 46, Go.Operand.tmp 47, Go.Operand.tmp 48], argTypes := #[33, 44, 49] }, type := 4, pos := "table.go:422", after := #[{ on := 3, ground := Go.Ground.data }, { on := 4, ground := Go.Ground.data }, { on := 5, ground := Go.Ground.data }], guard := none }) rfl (fun K hK => ?_) AllReadyU.nil
    go_simp
    refine hS.mono ?_
    rintro e w5 ⟨⟨a, rfl⟩, h5⟩
    have F := FIN.out w5 h5
    clear FIN
    clear hHeld
    refine hK.out _ _ (fun hz => absurd rfl hz) (fun hHeld => ?_)
    clear hK K
    try simp only [Act.put, List.setIfInBounds_toArray, List.set_cons_zero, List.set_cons_succ]
    refine wpAnyU_done (by kernel_rfl) ?_ _
    clear hHeld
    go_wp2_with fail
    go_ret
    exact ⟨⟨_, rfl⟩, F⟩
  | some v0 =>
    obtain ⟨hNv, v0c, v1c, v2c, v3c, v4c, zv⟩ := ver1 v0 (hp v0 rfl)
    obtain ⟨W2, hW2⟩ : ∃ W2, W2 = w1.alloc (.cells #[.slice ra rl rc, .int .u64 tx, .int .u64 0, P v0, .pointer none] 99) := ⟨_, rfl⟩
    have z2 : W2.heap[D]? = some (.cells #[.slice ra rl rc, .int .u64 tx, .int .u64 0, P v0, .pointer none] 99) := by rw [hW2]; exact heap_alloc_at _ _ hD
    have k2 : Kp [] w1 W2 := by rw [hW2]; exact (Kp.refl _ _).alloc _
    have zv2 := k2.at zv (by simp)
    have lv0 := lt_of zv
    have hDv : D ≠ v0 := by omega
    obtain ⟨W3, hW3⟩ : ∃ W3, W3 = (W2.setCell ⟨D, 4, none⟩ (.pointer v4c)).setCell ⟨v0, 4, none⟩ (P D) := ⟨_, rfl⟩
    have zv3a : (W2.setCell ⟨D, 4, none⟩ (.pointer v4c)).heap[v0]? = some (.cells #[v0c, v1c, v2c, v3c, .pointer v4c] 99) := by rw [Below.heap_setCell _ _ _ _ (by simp; exact hDv.symm)]; exact zv2
    have z3a : (W2.setCell ⟨D, 4, none⟩ (.pointer v4c)).heap[D]? = some (.cells #[.slice ra rl rc, .int .u64 tx, .int .u64 0, P v0, .pointer v4c] 99) := heap_setCell_same' _ z2
    have zv3 : W3.heap[v0]? = some (.cells #[v0c, v1c, v2c, v3c, P D] 99) := by rw [hW3]; exact heap_setCell_same' _ zv3a
    have z3 : W3.heap[D]? = some (.cells #[.slice ra rl rc, .int .u64 tx, .int .u64 0, P v0, .pointer v4c] 99) := by rw [hW3, Below.heap_setCell _ _ _ _ (by simp; exact hDv)]; exact z3a
    have k3 : Kp [D, v0] w1 W3 := by rw [hW3]; exact (k2.any.setCell (by simp) _).setCell (by simp) _
    have c4 : W2.cell? ⟨D, 4, none⟩ = some (.pointer none) := by rw [cell_of z2]; rfl
    have f4 : W2.frozen? ⟨D, 4, none⟩ = false := frozen_of z2
    have c5 : W2.cell? ⟨v0, 4, none⟩ = some (.pointer v4c) := by rw [cell_of zv2]; rfl
    have f5 : W2.frozen? ⟨v0, 4, none⟩ = false := frozen_of zv2
    have lD := lt_of t1
    have tv : tb ≠ v0 := ne_kind t1 zv (by decide)
    have xv : B ≠ v0 := ne_kind x1 zv (by decide)
    have t3 := k3.at t1 (by simp; exact ⟨by omega, tv⟩)
    have x3 := k3.at x1 (by simp; exact ⟨by omega, xv⟩)
    have k13 : Kp [v0] w1 W3 := ⟨k3.os, k3.tape, k3.output, k3.size, fun i hi hn => k3.block i hi (by simp at hn ⊢; omega)⟩
    have hR3 : Rep N W3 mb sh L := hR1.kp k13 (by simp; exact ⟨_, _, zv, by decide, by decide, by decide, by decide, by decide⟩)
    have ver3 : Ver N W3 L := by
      intro y hy
      by_cases e : y = v0
      · subst e; exact ⟨hNv, _, _, _, _, _, zv3⟩
      · obtain ⟨a1, a2, a3, a4, a5, a6, a7⟩ := ver1 y hy
        exact ⟨a1, _, _, _, _, _, k13.at a7 (by simpa using e)⟩
    have H3 : ∀ w', Kp [] W3 w' → w'.cell? ⟨tb, 2, none⟩ = some (P mb) ∧ w'.cell? ⟨B, 0, none⟩ = some (.int .u8 1) ∧ w'.cell? ⟨B, 1, none⟩ = some (.int .i64 k) ∧ w'.cell? ⟨B, 2, none⟩ = some (.string ⟨#[]⟩) := by
      intro w' h
      have e0 := h.at t3 (by simp)
      have e1 := h.at x3 (by simp)
      exact ⟨by rw [cell_of e0]; rfl, by rw [cell_of e1]; rfl, by rw [cell_of e1]; rfl, by rw [cell_of e1]; rfl⟩
    have hS := set_ hIn N mb D sh k L W3.drew (hR3.kp (Kp.refl [] _).drew (by simp)) srt h0 h1 few
    have FIN : Hid (∀ w5, Sets N mb sh k D L W3.drew w5 → Wrote N tb mb sh k L w w5) := fun w5 h => wrote_of (w4 := W3.drew) h0 t3 ver3 ⟨by omega, _, _, _, _, _, z3⟩ (frw.trans (FrV.of k13.drew (by simp; exact .inr ⟨hNv, _, _, zv, .inr rfl⟩))) h
    clear z2 z3 k2 k3 t1 x1 t3 x3 k13 hR3 ver3 hR1 ver1 k1 hK hKw hp srt frw zv zv2 zv3 zv3a z3a
    go_upto_region 3 with fail
    rw [← hW2, ← hD]
    clear hW2 hD
    go_upto_region 6 with fail
    rw [← hW3]
    clear hW3
    refine wp_region_until (z := 6) (S := (fun w' => w'.cell? ⟨tb, 2, none⟩ = some (P mb) ∧ w'.cell? ⟨B, 0, none⟩ = some (.int .u8 1) ∧ w'.cell? ⟨B, 1, none⟩ = some (.int .i64 k) ∧ w'.cell? ⟨B, 2, none⟩ = some (.string ⟨#[]⟩))) (by kernel_rfl) (H3 _ (Kp.refl _ _).drew) (fun hHeld => ?_)
    refine wpAnyU_take (i := 4) (oi := { dst := some 47, op := Go.Op.load 44 (Go.Operand.tmp 6), type := 44, pos := "table.go:422", after := #[], guard := none }) (v := ?vvb6_4_1) rfl (by kernel_rfl) (by kernel_rfl) (by kernel_rfl) (by kernel_rfl) (fun _ _ _ h => h) (Or.inl ⟨by rfl, ?hyb6_4_1⟩) hHeld ?reb6_4_1
    case hyb6_4_1 => (intro w hSw; (try dsimp only at hSw); go_simp; try with_reducible rfl)
    try simp only [Act.put, List.setIfInBounds_toArray, List.set_cons_zero, List.set_cons_succ]
    refine wpAnyU_take (i := 5) (oi := { dst := some 48, op := Go.Op.move (Go.Operand.tmp 11), type := 49, pos := "table.go:422", after := #[], guard := none }) (v := ?vvb6_5_2) rfl (by kernel_rfl) (by kernel_rfl) (by kernel_rfl) (by kernel_rfl) (fun _ _ _ h => h) (Or.inl ⟨by rfl, ?hyb6_5_2⟩) hHeld ?reb6_5_2
    case hyb6_5_2 => (intro w hSw; (try dsimp only at hSw); go_simp; try with_reducible rfl)
    try simp only [Act.put, List.setIfInBounds_toArray, List.set_cons_zero, List.set_cons_succ]
    refine wpAnyU_ready (rs := [0]) (by kernel_rfl) (by simp) ?_
    refine AllReadyU.cons (o := { dst := some 43, op := Go.Op.move (Go.Operand.tmp 0), type := 23, pos := "table.go:422", after := #[], guard := none }) rfl (fun K hK => ?_) AllReadyU.nil
    go_simp
    clear hHeld
    refine hK.out _ _ (fun hz => H3 _ (Kp.refl _ _).drew) (fun hHeld => ?_)
    clear hK K
    replace hHeld := hHeld (by decide)
    try simp only [Act.put, List.setIfInBounds_toArray, List.set_cons_zero, List.set_cons_succ]
    refine wpAnyU_ready (rs := [1]) (by kernel_rfl) (by simp) ?_
    refine AllReadyU.cons (o := { dst := some 44, op := Go.Op.nilCheck (Go.Operand.tmp 43), type := 0, pos := "table.go:422", after := #[{ on := 0, ground := Go.Ground.data }], guard := none }) rfl (fun K hK => ?_) AllReadyU.nil
    go_simp
    clear hHeld
    refine hK.out _ _ (fun hz => H3 _ (Kp.refl _ _).drew) (fun hHeld => ?_)
    clear hK K
    replace hHeld := hHeld (by decide)
    try simp only [Act.put, List.setIfInBounds_toArray, List.set_cons_zero, List.set_cons_succ]
    refine wpAnyU_ready (rs := [2]) (by kernel_rfl) (by simp) ?_
    refine AllReadyU.cons (o := { dst := some 45, op := Go.Op.fieldAddr 56 (Go.Operand.tmp 44) 1, type := 0, pos := "table.go:422", after := #[{ on := 1, ground := Go.Ground.data }], guard := none }) rfl (fun K hK => ?_) AllReadyU.nil
    go_simp
    clear hHeld
    refine hK.out _ _ (fun hz => H3 _ (Kp.refl _ _).drew) (fun hHeld => ?_)
    clear hK K
    replace hHeld := hHeld (by decide)
    try simp only [Act.put, List.setIfInBounds_toArray, List.set_cons_zero, List.set_cons_succ]
    refine wpAnyU_take (i := 3) (oi := { dst := some 46, op := Go.Op.load 33 (Go.Operand.tmp 45), type := 33, pos := "table.go:422", after := #[{ on := 2, ground := Go.Ground.data }], guard := none }) (v := ?vvb6_3_3) rfl (by kernel_rfl) (by kernel_rfl) (by kernel_rfl) (by kernel_rfl) (fun _ _ _ h => h) (Or.inl ⟨by rfl, ?hyb6_3_3⟩) hHeld ?reb6_3_3
    case hyb6_3_3 => (intro w hSw; (try dsimp only at hSw); go_simp; try with_reducible rfl)
    try simp only [Act.put, List.setIfInBounds_toArray, List.set_cons_zero, List.set_cons_succ]
    refine wpAnyU_ready (rs := [6]) (by kernel_rfl) (by simp) ?_
    refine AllReadyU.cons (o := { dst := some 49, op := Go.Op.call { callee := Go.Callee.value (Go.Operand.func 30), args := #[Go.Operand.tmp 46, Go.Operand.tmp 47, Go.Operand.tmp 48], argTypes := #[33, 44, 49] }, type := 4, pos := "table.go:422", after := #[{ on := 3, ground := Go.Ground.data }, { on := 4, ground := Go.Ground.data }, { on := 5, ground := Go.Ground.data }], guard := none }) rfl (fun K hK => ?_) AllReadyU.nil
    go_simp
    refine hS.mono ?_
    rintro e w5 ⟨⟨a, rfl⟩, h5⟩
    have F := FIN.out w5 h5
    clear FIN
    clear hHeld
    refine hK.out _ _ (fun hz => absurd rfl hz) (fun hHeld => ?_)
    clear hK K
    try simp only [Act.put, List.setIfInBounds_toArray, List.set_cons_zero, List.set_cons_succ]
    refine wpAnyU_done (by kernel_rfl) ?_ _
    clear hHeld
    go_wp2_with fail
    go_ret
    exact ⟨⟨_, rfl⟩, F⟩
end Go.Proofs.Ybulkcnom
