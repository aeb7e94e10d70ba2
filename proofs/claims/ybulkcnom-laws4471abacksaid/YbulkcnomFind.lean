import Derived.Test.YbulkcnomCursor
namespace Go.Proofs.Ybulkcnom
open Go.RowKit
attribute [local go_sem ↓] Go.wp_at_zero Go.wp_at_succ
theorem enter44 (args : Array Value) (w : World) : Sem.run Yba.prog (callFunc 44 args) w = .ok (.enter 44 args) w := by kernel_rfl
theorem ge_cmp (x k : Int) : decide (0 ≤ cmp3 x k) = decide (k ≤ x) := by
  unfold cmp3
  by_cases h1 : x < k
  · simp [h1]
  · by_cases h2 : k < x
    · simp [h1, h2]; omega
    · simp [h1, h2]; omega
theorem eq_cmp (x k : Int) : (cmp3 x k == 0) = decide (x = k) := by
  unfold cmp3
  by_cases h1 : x < k
  · simp [h1]; omega
  · by_cases h2 : k < x
    · simp [h1, h2]; omega
    · simp [h1, h2]; omega
/-- An operation whose guard says no is taken first. -/
theorem take_out {Pr : Program} {ops : Array Oper} {Q : Exit → Act → World → Prop} {md : Region.Mode} {S : World → Prop} (i d : Nat) {fuel : Nat} {listed : Array Bool} {a : Act} {w : World} (hi : (ops[i]?).map (·.dst) = some (some d))
    (hs : Region.noSelect ops = true) (hf : Region.free md ops listed i = true) (hr : (Region.ready md ops listed).contains i = true)
    (hQ : ∀ c a w, Q (.panic c) (Act.put a (some d) undef) w → Q (.panic c) a w) (hw : (ops[i]?).map (fun o => Region.wanted o (yielded ops a.tmps)) = some false) (hS : S w)
    (h : wpAnyH Pr md ops Q S fuel (listed.setIfInBounds i true) (a.put (some d) undef) w) : wpAnyH Pr md ops Q S (fuel + 1) listed a w := by
  cases ho : ops[i]? with
  | none => simp [ho] at hi
  | some o =>
    simp [ho] at hi hw
    exact wpAnyH_take ho hs hf hr (fun c a w hq => hQ c a w (by rw [← hi]; exact hq)) (Or.inr ⟨hw, rfl⟩) hS (by rw [hi]; exact h)
def atKey (L : List Leaf) (l i : Nat) : Option Int := (L[l]?).bind fun x => x.ks[i]?
set_option linter.unusedSimpArgs false in
set_option maxRecDepth 20000 in
set_option maxHeartbeats 1600000 in
theorem find (N mb : Nat) (sh k : Int) (L : List Leaf) (w : World) (hR : Rep N w mb sh L) (hs : Srt L) :
    Calls Yba.prog 37 #[P mb, V k] w fun e w' => ∃ l i : Nat, e = .returned (.tuple #[.agg (CC mb l i sh), .bool (decide (atKey L l i = some k))]) ∧ Pos (fun x => decide (0 ≤ cmp3 x k)) L l i ∧ Kp [mb] w w' ∧ Rep N w' mb sh L := by
  obtain ⟨W, hW⟩ : ∃ W, W = ((w.alloc (.cells #[P mb] 33)).alloc (.cells (VC k) 44)).alloc (.cells #[.pointer none, .int .i64 0, .int .i64 0, .int .u64 0] 35) := ⟨_, rfl⟩
  obtain ⟨B, hB⟩ : ∃ B, B = w.heap.size := ⟨_, rfl⟩
  have hK : Kp [] w W := by rw [hW]; exact (((Kp.refl _ _).alloc _).alloc _).alloc _
  have x0 : W.heap[B]? = some (.cells #[P mb] 33) := by rw [hW, hB]; exact (((Kp.refl [] _).alloc _).alloc _).at (heap_alloc_same _ _) (by simp)
  have x1 : W.heap[B + 1]? = some (.cells (VC k) 44) := by rw [hW, hB]; exact ((Kp.refl [] _).alloc _).at (heap_alloc_at _ _ (by simp)) (by simp)
  have x2 : W.heap[B + 2]? = some (.cells #[.pointer none, .int .i64 0, .int .i64 0, .int .u64 0] 35) := by rw [hW, hB]; exact heap_alloc_at _ _ (by simp)
  have hRW := hR.kp hK (by simp)
  have hmb : mb < B := by obtain ⟨lv, near, hm, _⟩ := hR.has; rw [hB]; exact lt_of hm
  have hBw : w.heap.size ≤ B + 2 := by omega
  have hA : After 44 #[P B, P (B + 1)] (fun x => decide (0 ≤ cmp3 x k)) mb sh W := by
    refine ⟨enter44, fun w' h ⟨lv, near, hm⟩ x => ?_⟩
    exact findAfter B (B + 1) mb k x lv near sh w' (h.at x0 (by simp; omega)) (h.at x1 (by simp; omega)) hm
  have hp : ∀ x y : Int, x ≤ y → (decide (0 ≤ cmp3 x k)) = true → (decide (0 ≤ cmp3 y k)) = true := by
    intro x y hxy h
    rw [ge_cmp] at h ⊢
    simp at h ⊢
    omega
  have hC := seek N mb sh L 44 #[P B, P (B + 1)] _ W hRW hA hs hp
  have c0 : W.cell? ⟨B, 0, none⟩ = some (P mb) := by rw [cell_of x0]; rfl
  go_enter Yba.func37, Yba.ntmps37
  go_upto_region 1 with fail
  rw [← hW, ← hB]
  clear hW hB hR hRW hA hp
  go_wp2_with fail
  refine hC.mono ?_
  rintro e w1 ⟨l, i, rfl, hPos, hk1, hR1⟩
  clear hC c0
  obtain ⟨C, hCs⟩ : ∃ C, C = w1.heap.size := ⟨_, rfl⟩
  have hCs' : Hid (C = w1.heap.size) := hCs
  have x1' : (w1.alloc (.cells (CC mb l i sh) 35)).heap[C]? = some (.cells (CC mb l i sh) 35) := heap_alloc_at _ _ hCs
  obtain ⟨W2, hW2⟩ : ∃ W2, W2 = w1.alloc (.cells (CC mb l i sh) 35) := ⟨_, rfl⟩
  rw [← hW2] at x1'
  have hk2 : Kp [] w1 W2 := by rw [hW2]; exact (Kp.refl _ _).alloc _
  have hR2 : Rep N W2 mb sh L := hR1.kp hk2 (by simp)
  have y0 := hk2.at (hk1.at x0 (by simp; omega)) (by simp)
  have y1 := hk2.at (hk1.at x1 (by simp; omega)) (by simp)
  have y2 := hk2.at (hk1.at x2 (by simp; omega)) (by simp)
  obtain ⟨lv, near, hm, _, hL⟩ := hR2.has
  have a0 : W2.cell? ⟨B, 0, none⟩ = some (P mb) := by rw [cell_of y0]; rfl
  have a1 : W2.cell? ⟨mb, 0, none⟩ = some (.func (.func 23) #[] #[]) := by rw [cell_of hm]; rfl
  have a2 : W2.cell? ⟨B + 1, 0, none⟩ = some (.int .u8 1) := by rw [cell_of y1]; rfl
  have a3 : W2.cell? ⟨B + 1, 1, none⟩ = some (.int .i64 k) := by rw [cell_of y1]; rfl
  have a4 : W2.cell? ⟨B + 1, 2, none⟩ = some (.string ⟨#[]⟩) := by rw [cell_of y1]; rfl
  have a5 : W2.cell? ⟨C, 0, none⟩ = some (P mb) := by rw [cell_of x1']; rfl
  have a6 : W2.cell? ⟨C, 1, none⟩ = some (.int .i64 l) := by rw [cell_of x1']; rfl
  have a7 : W2.cell? ⟨C, 2, none⟩ = some (.int .i64 i) := by rw [cell_of x1']; rfl
  have a8 : W2.cell? ⟨C, 3, none⟩ = some (.int .u64 sh) := by rw [cell_of x1']; rfl
  have hCB : B + 1 + 1 ≠ C := by have := lt_of (hk1.at x2 (by simp; omega)); omega
  have n1 : mb ≠ B + 1 + 1 := by omega
  have H : ∀ w', Kp [B + 1 + 1] W2 w' → w'.cell? ⟨B, 0, none⟩ = some (P mb) ∧ w'.cell? ⟨mb, 0, none⟩ = some (.func (.func 23) #[] #[]) ∧ w'.cell? ⟨B + 1, 0, none⟩ = some (.int .u8 1) ∧ w'.cell? ⟨B + 1, 1, none⟩ = some (.int .i64 k) ∧ w'.cell? ⟨B + 1, 2, none⟩ = some (.string ⟨#[]⟩) ∧
      w'.cell? ⟨C, 0, none⟩ = some (P mb) ∧ w'.cell? ⟨C, 1, none⟩ = some (.int .i64 l) ∧ w'.cell? ⟨C, 2, none⟩ = some (.int .i64 i) ∧ w'.cell? ⟨C, 3, none⟩ = some (.int .u64 sh) :=
    fun w' h => ⟨h.cell a0 (by simp; omega), h.cell a1 (by simp [n1]), h.cell a2 (by simp), h.cell a3 (by simp), h.cell a4 (by simp), h.cell a5 (by simp [hCB.symm]), h.cell a6 (by simp [hCB.symm]), h.cell a7 (by simp [hCB.symm]), h.cell a8 (by simp [hCB.symm])⟩
  have G : ∀ w', Kp [] W2 w' → w'.cell? ⟨B + 1 + 1, 0, none⟩ = some (.pointer none) ∧ w'.cell? ⟨B + 1 + 1, 1, none⟩ = some (.int .i64 0) ∧ w'.cell? ⟨B + 1 + 1, 2, none⟩ = some (.int .i64 0) ∧ w'.cell? ⟨B + 1 + 1, 3, none⟩ = some (.int .u64 0) ∧ ∀ o, w'.frozen? ⟨B + 1 + 1, o, none⟩ = false := by
    intro w' h
    have := h.at y2 (by simp)
    exact ⟨by rw [cell_of this]; rfl, by rw [cell_of this]; rfl, by rw [cell_of this]; rfl, by rw [cell_of this]; rfl, fun o => frozen_of this⟩
  have FIN : Hid (∀ wr, Kp [] W2 wr → ∀ a b c d, Kp [mb] w ((((wr.setCell ⟨B + 1 + 1, 0, none⟩ a).setCell ⟨B + 1 + 1, 1, none⟩ b).setCell ⟨B + 1 + 1, 2, none⟩ c).setCell ⟨B + 1 + 1, 3, none⟩ d) ∧ Rep N ((((wr.setCell ⟨B + 1 + 1, 0, none⟩ a).setCell ⟨B + 1 + 1, 1, none⟩ b).setCell ⟨B + 1 + 1, 2, none⟩ c).setCell ⟨B + 1 + 1, 3, none⟩ d) mb sh L) := by
    intro wr h a b c d
    refine ⟨((((((hK.any.trans hk1).trans hk2.any).trans h.any).setCell (.inr hBw) _).setCell (.inr hBw) _).setCell (.inr hBw) _).setCell (.inr hBw) _, (hR2.kp h (by simp)).kp (S := [B + 1 + 1]) (((((Kp.refl _ _).setCell (by simp) _).setCell (by simp) _).setCell (by simp) _).setCell (by simp) _) ?_⟩
    intro k hk
    simp at hk
    subst hk
    exact ⟨_, _, h.at y2 (by simp), by decide, by decide, by decide, by decide, by decide⟩
  have few := hL.few
  by_cases hl : l < L.length
  · obtain ⟨hi, hpi, hlo⟩ := hPos.here hl
    have hV := fun w' h => valid N mb l i sh sh L w' (hR2.kp (S := []) (w' := w') h (by simp))
    have hY := fun w' h => key N mb l i sh sh L w' (hR2.kp (S := []) (w' := w') h (by simp)) hl hi
    have hat : decide (atKey L l i = some k) = decide (L[l].ks[i] = k) := by simp [atKey, List.getElem?_eq_getElem hl, List.getElem?_eq_getElem hi]
    rw [decide_eq_true hl] at hV
    obtain ⟨x, hx⟩ : ∃ x, x = L[l].ks[i] := ⟨_, rfl⟩
    rw [← hx] at hY hat
    rw [← eq_cmp] at hat
    have hat' : Hid (decide (atKey L l i = some k) = (cmp3 x k == 0)) := hat
    clear x0 x1 x2 y0 y1 y2 a0 a1 a2 a3 a4 a5 a6 a7 a8 hm hL hx hpi hlo hR2 hat hR1 hs
    go_wp2_with fail
    rw [← hW2, ← hCs]
    clear hW2 hCs
    go_region_held3 (fun w' => w'.cell? ⟨B, 0, none⟩ = some (P mb) ∧ w'.cell? ⟨mb, 0, none⟩ = some (.func (.func 23) #[] #[]) ∧ w'.cell? ⟨B + 1, 0, none⟩ = some (.int .u8 1) ∧ w'.cell? ⟨B + 1, 1, none⟩ = some (.int .i64 k) ∧ w'.cell? ⟨B + 1, 2, none⟩ = some (.string ⟨#[]⟩) ∧
        w'.cell? ⟨C, 0, none⟩ = some (P mb) ∧ w'.cell? ⟨C, 1, none⟩ = some (.int .i64 l) ∧ w'.cell? ⟨C, 2, none⟩ = some (.int .i64 i) ∧ w'.cell? ⟨C, 3, none⟩ = some (.int .u64 sh))
      (first | exact H _ (Kp.refl _ _).drew | exact H _ h3.any | exact H _ h4.any | exact H _ h5.any | exact H _ ((((h5.any.setCell (by simp) _).setCell (by simp) _).setCell (by simp) _).setCell (by simp) _))
      (first | (go_at_call 45; refine (hV _ (Kp.refl _ _).drew).mono ?_; rintro e w3 ⟨rfl, h3'⟩; have h3 := (Kp.refl [] W2).drew.trans h3'; clear h3') | (go_at_call 11; refine (hY _ h3).mono ?_; rintro e w4 ⟨rfl, h4'⟩; have h4 := h3.trans h4'; clear h4') | (go_at_call 23; refine (compare x k _).mono ?_; rintro e w5 ⟨rfl, h5'⟩; have h5 := h4.trans h5'; clear h5'; obtain ⟨g0, g1, g2, g3, g4⟩ := G _ h5))
    go_wp2_with fail
    simp [bodyPost, results, Yba.results37, go_sem, g0, g1, g2, g3]
    have F := FIN.out w5 h5 (.pointer (some ⟨mb, 0, none⟩)) (.int .i64 l) (.int .i64 i) (.int .u64 sh)
    exact ⟨l, i, ⟨⟨rfl, rfl⟩, hat'.out.symm⟩, hPos, F⟩
  · have hl' : l = L.length := by have := hPos.le; omega
    have hV := fun w' h => valid N mb l i sh sh L w' (hR2.kp (S := []) (w' := w') h (by simp))
    rw [decide_eq_false hl] at hV
    have hat : ¬ (atKey L l i = some k) := by unfold atKey; rw [List.getElem?_eq_none (by omega)]; simp
    have hat' : Hid (¬ (atKey L l i = some k)) := hat
    clear hat hl' x0 x1 x2 y0 y1 y2 a0 a1 a2 a3 a4 a5 a6 a7 a8 hm hL hR2 hR1 hs
    go_wp2_with fail
    rw [← hW2, ← hCs]
    clear hW2 hCs
    refine wp_region_held_drew (S := (fun w' => w'.cell? ⟨B, 0, none⟩ = some (P mb) ∧ w'.cell? ⟨mb, 0, none⟩ = some (.func (.func 23) #[] #[]) ∧ w'.cell? ⟨B + 1, 0, none⟩ = some (.int .u8 1) ∧ w'.cell? ⟨B + 1, 1, none⟩ = some (.int .i64 k) ∧ w'.cell? ⟨B + 1, 2, none⟩ = some (.string ⟨#[]⟩) ∧
        w'.cell? ⟨C, 0, none⟩ = some (P mb) ∧ w'.cell? ⟨C, 1, none⟩ = some (.int .i64 l) ∧ w'.cell? ⟨C, 2, none⟩ = some (.int .i64 i) ∧ w'.cell? ⟨C, 3, none⟩ = some (.int .u64 sh))) (by kernel_rfl) (H _ (Kp.refl _ _).drew) (fun hHeld => ?_)
    refine wpAnyH_take (i := 0) (oi := { dst := some 10, op := Op.load 35 (Operand.tmp 6), type := 35, pos := "ordered.go:145", after := #[], guard := none }) (v := Value.agg (CC mb l i sh)) rfl (by kernel_rfl) (by kernel_rfl) (by kernel_rfl) (fun _ _ _ h => h) (Or.inl ⟨by rfl, ?_⟩) hHeld ?_
    · intro w hSw; (try dsimp only at hSw); go_simp
    try simp only [Act.put, List.setIfInBounds_toArray, List.set_cons_zero, List.set_cons_succ]
    refine wpAnyH_take (i := 1) (oi := { dst := some 11, op := Op.load 35 (Operand.tmp 6), type := 35, pos := "ordered.go:145", after := #[], guard := none }) (v := Value.agg (CC mb l i sh)) rfl (by kernel_rfl) (by kernel_rfl) (by kernel_rfl) (fun _ _ _ h => h) (Or.inl ⟨by rfl, ?_⟩) hHeld ?_
    · intro w hSw; (try dsimp only at hSw); go_simp
    try simp only [Act.put, List.setIfInBounds_toArray, List.set_cons_zero, List.set_cons_succ]
    refine wpAnyH_ready (rs := [2]) (by kernel_rfl) (by simp) ?_
    refine AllReadyH.cons (o := { dst := some 12, op := Op.call { callee := Callee.value (Operand.func 45), args := #[Operand.tmp 11], argTypes := #[35] }, type := 4, pos := "ordered.go:145", after := #[{ on := 1, ground := Ground.data }], guard := none }) rfl (fun K hK => ?_) AllReadyH.nil
    go_simp
    refine (hV _ (Kp.refl _ _).drew).mono ?_
    rintro e w3 ⟨rfl, h3'⟩
    have h3 := (Kp.refl [] W2).drew.trans h3'
    clear h3' hHeld
    obtain ⟨g0, g1, g2, g3, g4⟩ := G _ h3
    refine hK.out _ _ (H _ h3.any) (fun hHeld => ?_)
    clear hK K
    try simp only [Act.put, List.setIfInBounds_toArray, List.set_cons_zero, List.set_cons_succ]
    refine wpAnyH_take (i := 3) (oi := { dst := some 13, op := Op.move (Operand.tmp 12), type := 4, pos := "ordered.go:145", after := #[{ on := 2, ground := Ground.data }, { on := 2, ground := Ground.chain }], guard := none }) (v := Value.bool false) rfl (by kernel_rfl) (by kernel_rfl) (by kernel_rfl) (fun _ _ _ h => h) (Or.inl ⟨by rfl, ?_⟩) hHeld ?_
    · intro w hSw; (try dsimp only at hSw); go_simp
    try simp only [Act.put, List.setIfInBounds_toArray, List.set_cons_zero, List.set_cons_succ]
    refine take_out 4 14 (by kernel_rfl) (by kernel_rfl) (by kernel_rfl) (by kernel_rfl) (fun _ _ _ h => h) (by kernel_rfl) hHeld ?_
    try simp only [Act.put, List.setIfInBounds_toArray, List.set_cons_zero, List.set_cons_succ]
    refine take_out 5 15 (by kernel_rfl) (by kernel_rfl) (by kernel_rfl) (by kernel_rfl) (fun _ _ _ h => h) (by kernel_rfl) hHeld ?_
    try simp only [Act.put, List.setIfInBounds_toArray, List.set_cons_zero, List.set_cons_succ]
    refine take_out 6 16 (by kernel_rfl) (by kernel_rfl) (by kernel_rfl) (by kernel_rfl) (fun _ _ _ h => h) (by kernel_rfl) hHeld ?_
    try simp only [Act.put, List.setIfInBounds_toArray, List.set_cons_zero, List.set_cons_succ]
    refine take_out 7 17 (by kernel_rfl) (by kernel_rfl) (by kernel_rfl) (by kernel_rfl) (fun _ _ _ h => h) (by kernel_rfl) hHeld ?_
    try simp only [Act.put, List.setIfInBounds_toArray, List.set_cons_zero, List.set_cons_succ]
    refine take_out 8 18 (by kernel_rfl) (by kernel_rfl) (by kernel_rfl) (by kernel_rfl) (fun _ _ _ h => h) (by kernel_rfl) hHeld ?_
    try simp only [Act.put, List.setIfInBounds_toArray, List.set_cons_zero, List.set_cons_succ]
    refine take_out 9 19 (by kernel_rfl) (by kernel_rfl) (by kernel_rfl) (by kernel_rfl) (fun _ _ _ h => h) (by kernel_rfl) hHeld ?_
    try simp only [Act.put, List.setIfInBounds_toArray, List.set_cons_zero, List.set_cons_succ]
    refine take_out 10 20 (by kernel_rfl) (by kernel_rfl) (by kernel_rfl) (by kernel_rfl) (fun _ _ _ h => h) (by kernel_rfl) hHeld ?_
    try simp only [Act.put, List.setIfInBounds_toArray, List.set_cons_zero, List.set_cons_succ]
    refine take_out 11 21 (by kernel_rfl) (by kernel_rfl) (by kernel_rfl) (by kernel_rfl) (fun _ _ _ h => h) (by kernel_rfl) hHeld ?_
    try simp only [Act.put, List.setIfInBounds_toArray, List.set_cons_zero, List.set_cons_succ]
    refine take_out 12 22 (by kernel_rfl) (by kernel_rfl) (by kernel_rfl) (by kernel_rfl) (fun _ _ _ h => h) (by kernel_rfl) hHeld ?_
    try simp only [Act.put, List.setIfInBounds_toArray, List.set_cons_zero, List.set_cons_succ]
    refine wpAnyH_take (i := 13) (oi := { dst := some 23, op := Op.pick (Operand.tmp 13) (Operand.tmp 22) (Operand.const (Value.bool false)), type := 4, pos := "ordered.go:145", after := #[{ on := 3, ground := Ground.data }, { on := 12, ground := Ground.data }, { on := 14, ground := Ground.gcOnly Departure.lateStores }], guard := none }) (v := Value.bool false) rfl (by kernel_rfl) (by kernel_rfl) (by kernel_rfl) (fun _ _ _ h => h) (Or.inl ⟨by rfl, ?_⟩) hHeld ?_
    · intro w hSw; (try dsimp only at hSw); go_simp
    try simp only [Act.put, List.setIfInBounds_toArray, List.set_cons_zero, List.set_cons_succ]
    refine wpAnyH_ready (rs := [14]) (by kernel_rfl) (by simp) ?_
    refine AllReadyH.cons (o := { dst := none, op := Op.store 35 (Operand.tmp 4) (Operand.tmp 10), type := 0, pos := "ordered.go:145", after := #[{ on := 0, ground := Ground.data }, { on := 11, ground := Ground.chain }, { on := 0, ground := Ground.phase }, { on := 1, ground := Ground.textOnly Departure.lateStores }, { on := 2, ground := Ground.textOnly Departure.lateStoresUnsure }, { on := 3, ground := Ground.textOnly Departure.lateStores }, { on := 4, ground := Ground.textOnly Departure.lateStores }, { on := 5, ground := Ground.textOnly Departure.lateStores }, { on := 6, ground := Ground.textOnly Departure.lateStores }, { on := 7, ground := Ground.textOnly Departure.lateStores }, { on := 8, ground := Ground.textOnly Departure.lateStores }, { on := 9, ground := Ground.textOnly Departure.lateStoresUnsure }, { on := 10, ground := Ground.textOnly Departure.lateStores }, { on := 11, ground := Ground.textOnly Departure.lateStoresUnsure }, { on := 12, ground := Ground.textOnly Departure.lateStores }, { on := 13, ground := Ground.textOnly Departure.lateStores }], guard := none }) rfl (fun K hK => ?_) AllReadyH.nil
    go_simp
    clear hHeld
    refine hK.out _ _ (H _ ((((h3.any.setCell (by simp) _).setCell (by simp) _).setCell (by simp) _).setCell (by simp) _)) (fun hHeld => ?_)
    clear hK K
    try simp only [Act.put, List.setIfInBounds_toArray, List.set_cons_zero, List.set_cons_succ]
    refine wpAnyH_take (i := 15) (oi := { dst := some 5, op := Op.assign (Operand.tmp 23), type := 4, pos := "ordered.go:145", after := #[{ on := 13, ground := Ground.data }, { on := 14, ground := Ground.chain }, { on := 0, ground := Ground.phase }, { on := 1, ground := Ground.phase }, { on := 2, ground := Ground.phase }, { on := 3, ground := Ground.phase }, { on := 4, ground := Ground.phase }, { on := 5, ground := Ground.phase }, { on := 6, ground := Ground.phase }, { on := 7, ground := Ground.phase }, { on := 8, ground := Ground.phase }, { on := 9, ground := Ground.phase }, { on := 10, ground := Ground.phase }, { on := 11, ground := Ground.phase }, { on := 12, ground := Ground.phase }, { on := 13, ground := Ground.phase }, { on := 14, ground := Ground.phase }], guard := none }) (v := Value.bool false) rfl (by kernel_rfl) (by kernel_rfl) (by kernel_rfl) (fun _ _ _ h => h) (Or.inl ⟨by rfl, ?_⟩) hHeld ?_
    · intro w hSw; (try dsimp only at hSw); go_simp
    try simp only [Act.put, List.setIfInBounds_toArray, List.set_cons_zero, List.set_cons_succ]
    refine wpAnyH_done (by kernel_rfl) ?_ _
    clear hHeld
    go_wp2_with fail
    simp [bodyPost, results, Yba.results37, go_sem, g0, g1, g2, g3]
    have F := FIN.out w3 h3 (.pointer (some ⟨mb, 0, none⟩)) (.int .i64 l) (.int .i64 i) (.int .u64 sh)
    exact ⟨l, i, ⟨⟨rfl, rfl⟩, hat'.out⟩, hPos, F⟩
end Go.Proofs.Ybulkcnom
