/-
  Seat b4471a, Forward and Back: insert behind the last leaf, which is full.
-/
import Derived.Test.YbulkcnomFinNew
namespace Go.Proofs.Ybulkcnom
open Go.RowKit
attribute [local go_sem ↓] Go.wp_at_zero Go.wp_at_succ
set_option maxRecDepth 20000 in
set_option maxHeartbeats 1600000 in
theorem insert_new (N mb i v : Nat) (sh k : Int) (L1 L2 : List Leaf) (lf : Leaf) (w : World) (hR : Rep N w mb sh (L1 ++ lf :: L2)) (h0 : 0 ≤ sh) (h1 : sh < 100000) (hs : Srt (L1 ++ lf :: L2)) (hL2 : L2 = []) (hfull : lf.ks.length = 128) (hkeysfew : (keysOf (L1 ++ lf :: L2)).length < 300)
    (hA : ∀ x ∈ keysOf L1 ++ lf.ks.take lf.ks.length, x < k) (hZ : ∀ x ∈ lf.ks.drop lf.ks.length ++ keysOf L2, k < x) :
    Calls Yba.prog 39 #[P mb, .agg (CC mb (L1.length + 1 : Nat) i sh), V k, P v] w fun e w' => e = .returned (.tuple #[]) ∧ Ins N mb sh k v (L1 ++ lf :: L2) w w' := by
  obtain ⟨l, hl⟩ : ∃ l, l = L1.length + 1 := ⟨_, rfl⟩
  rw [← hl]
  obtain ⟨lv, near, hm, hnear, hL⟩ := hR.has
  have hbase := hR.base
  obtain ⟨lb, lc, rfl⟩ : ∃ lb lc, lv = .slice (some ⟨lb, 0, none⟩) (L1 ++ lf :: L2).length lc := by
    obtain ⟨g, cap, h, _⟩ := hL.row.form (by simp; omega)
    exact ⟨g, cap, h⟩
  obtain ⟨LL, hLL⟩ : ∃ LL, LL = (L1 ++ lf :: L2).length := ⟨_, rfl⟩
  have hfew := hL.few
  have hrow := hL.row
  have hmap : ((L1 ++ lf :: L2).map fun l => P l.b)[L1.length]? = some (P lf.b) := by simp
  obtain ⟨lcur, hlb, hNlb, hlc1, hlc2, hlc3, hlc4⟩ := ownsRow_blk hrow
  have hlf := hL.leaf lf (by simp)
  obtain ⟨n, hn⟩ : ∃ n, n = lf.ks.length := ⟨_, rfl⟩
  obtain ⟨kcur, hkb, hNkb, hkc1, hkc2, hkc3, hkc4⟩ := ownsRow_blk hlf.keys
  obtain ⟨vcur, hvb, hNvb, hvc1, hvc2, hvc3, hvc4⟩ := ownsRow_blk hlf.vals
  have hlfb := hlf.blk
  have hNb := hlf.base
  have hkeys := hlf.keys
  have hvals := hlf.vals
  rw [← hn] at hlfb hkeys hvals hkc1 hvc1
  have hn1 := hlf.pos
  have hn2 := hlf.few
  rw [← hn] at hn1 hn2
  rw [← hLL] at hm hlc1 hfew hrow
  have hlcell : w.cell? ⟨lb, L1.length, none⟩ = some (P lf.b) := by
    rw [hrow.cellAt _ (by rw [hLL]; simp)]
    simp
  obtain ⟨B, hB⟩ : ∃ B, B = w.heap.size := ⟨_, rfl⟩
  have lmb := lt_of hm
  have llb := lt_of hlb
  have llf := lt_of hlfb
  have lkb := lt_of hkb
  have lvb := lt_of hvb
  rw [← hB] at lmb llb llf lkb lvb
  have q1 : mb ≠ lb := ne_kind hm hlb (by decide)
  have q2 : mb ≠ lf.b := ne_kind hm hlfb (by decide)
  have q3 : mb ≠ lf.kb := ne_kind hm hkb (by decide)
  have q4 : mb ≠ lf.vb := ne_kind hm hvb (by decide)
  have q5 : lf.b ≠ lf.kb := ne_kind hlfb hkb (by decide)
  have q6 : lf.b ≠ lf.vb := ne_kind hlfb hvb (by decide)
  have q7 : lf.kb ≠ lf.vb := ne_kind hkb hvb (by decide)
  have q8 : lb ≠ lf.b := ne_kind hlb hlfb (by decide)
  have q9 : lb ≠ lf.kb := ne_kind hlb hkb (by decide)
  have q10 : lb ≠ lf.vb := ne_kind hlb hvb (by decide)
  obtain ⟨W, hW⟩ : ∃ W, W = ((w.alloc (.cells (CC mb l i sh) 35)).alloc (.cells (VC k) 44)) := ⟨_, rfl⟩
  have hK : Kp [] w W := by rw [hW]; exact ((Kp.refl _ _).alloc _).alloc _
  have hmW : W.heap[mb]? = some (.cells (MC (.slice (some ⟨lb, 0, none⟩) LL lc) near sh) 85) := hK.at hm (by simp)
  have x0 : W.heap[B]? = some (.cells (CC mb l i sh) 35) := by rw [hW, hB]; exact ((Kp.refl [] _).alloc _).at (heap_alloc_same _ _) (by simp)
  have x1 : W.heap[B + 1]? = some (.cells (VC k) 44) := by rw [hW, hB]; exact heap_alloc_at _ _ (by simp)
  have hWs : W.heap.size = B + 2 := by rw [hW, hB]; simp
  have p3 : W.cell? ⟨mb, 3, none⟩ = some (.int .u64 sh) := by rw [cell_of hmW]; rfl
  have p1 : W.cell? ⟨mb, 1, none⟩ = some (.slice (some ⟨lb, 0, none⟩) LL lc) := by rw [cell_of hmW]; rfl
  have pf : W.frozen? ⟨mb, 3, none⟩ = false := frozen_of hmW
  have hwr : IntKind.u64.wrap (sh + 1) = sh + 1 := by rw [IntKind.wrap_u64]; omega
  obtain ⟨W1, hW1⟩ : ∃ W1, W1 = W.setCell ⟨mb, 3, none⟩ (.int .u64 (sh + 1)) := ⟨_, rfl⟩
  have hW1s : W1.heap.size = B + 2 := by rw [hW1]; simpa using hWs
  have hm1 : W1.heap[mb]? = some (.cells (MC (.slice (some ⟨lb, 0, none⟩) LL lc) near (sh + 1)) 85) := by rw [hW1]; exact heap_setCell_same' _ hmW
  have hK1 : Kp [mb] w W1 := by rw [hW1]; exact hK.any.setCell (by simp) _
  have y0 : W1.heap[B]? = some (.cells (CC mb l i sh) 35) := by rw [hW1, Below.heap_setCell _ _ _ _ (by simp; omega)]; exact x0
  have y1 : W1.heap[B + 1]? = some (.cells (VC k) 44) := by rw [hW1, Below.heap_setCell _ _ _ _ (by simp; omega)]; exact x1
  have hlf1 := hK1.at hlfb (by simp; exact q2.symm)
  have hlb1 := hK1.at hlb (by simp; exact q1.symm)
  have hlc1' : W1.cell? ⟨lb, L1.length, none⟩ = some (P lf.b) := by rw [cell_of hlb1]; rw [cell_of hlb] at hlcell; exact hlcell
  have hkey1 : W1.ownsRow N 44 3 (.slice (some ⟨lf.kb, 0, none⟩) n lf.kc) n (flat lf.ks) := ownsRow_same hkeys (fun g hg => by simp [Value.ownBlock] at hg; subst hg; exact hK1.block _ (by omega) (by simp; exact q3.symm))
  have hval1 : W1.ownsRow N 49 1 (.slice (some ⟨lf.vb, 0, none⟩) n lf.vc) n (lf.vs.map P) := ownsRow_same hvals (fun g hg => by simp [Value.ownBlock] at hg; subst hg; exact hK1.block _ (by omega) (by simp; exact q4.symm))
  have hLv1 : Lvs N W1 (.slice (some ⟨lb, 0, none⟩) LL lc) (L1 ++ lf :: L2) := by
    rw [hLL]
    refine hL.kp hK1 (fun x hx => ?_)
    simp at hx
    subst hx
    exact ⟨_, _, hm, by decide, by decide, by decide, by decide⟩
  have hN1 : N ≤ W1.heap.size := by omega
  rw [← hn] at hfull hA hZ
  have hLl : LL = l := by rw [hLL, hL2, hl]; simp
  subst hLl
  have a1 : W1.cell? ⟨mb, 1, none⟩ = some (.slice (some ⟨lb, 0, none⟩) LL lc) := by rw [cell_of hm1]; rfl
  have a3 : W1.cell? ⟨lf.b, 0, none⟩ = some (.slice (some ⟨lf.kb, 0, none⟩) n lf.kc) := by rw [cell_of hlf1]; rfl
  have c1 : W1.cell? ⟨B, 1, none⟩ = some (.int .i64 LL) := by rw [cell_of y0]; rfl
  have fB : ∀ o, W1.frozen? ⟨B, o, none⟩ = false := fun o => frozen_of y0
  have g1 : ((LL : Int) == 0) = false := by simp; omega
  have g3 : (L1.length : Int) < (LL : Int) := by omega
  have g4 : ¬ ((n : Int) < 128) := by omega
  have hws : IntKind.i64.wrap ((LL : Int) - 1) = (L1.length : Int) := by rw [IntKind.wrap_i64]; omega
  have HN : Hid (n = lf.ks.length) := hn
  have HLL : Hid (LL = (L1 ++ lf :: L2).length) := hLL
  have Hl : Hid (LL = L1.length + 1) := hl
  clear hn hLL hl
  have HBw : w.heap.size ≤ B := by omega
  have HL2 : Hid (L2 = []) := hL2
  have FN : Hid (n = 128) := hfull
  clear hfull
  clear hL2
  go_enter Yba.func39, Yba.ntmps39
  go_upto_region 1 with fail
  rw [← hW, ← hB]
  clear hW hB
  go_upto_if 18 with fail
  rw [← hW1]
  clear hW1 p1 p3 pf
  go_upto_region 4 with fail
  go_quiet (fail)
  go_upto_region 6 with fail
  generalize hD : (W1.drewN nq).setCell ⟨B, 1, none⟩ (.int .i64 L1.length) = V1
  have kV : Kp [B] W1 V1 := by rw [← hD]; exact ((Kp.refl _ _).drewN _).setCell (by simp) _
  have v0 : V1.heap[B]? = some (.cells (CC mb L1.length i sh) 35) := by rw [← hD]; exact heap_setCell_same' (w := W1.drewN nq) _ y0
  have hV1s : V1.heap.size = B + 2 := by rw [← hD]; simpa using hW1s
  clear hD
  have HV : ∀ w', Kp [] V1 w' → w'.cell? ⟨mb, 1, none⟩ = some (.slice (some ⟨lb, 0, none⟩) LL lc) ∧ w'.cell? ⟨lb, L1.length, none⟩ = some (P lf.b) ∧ w'.cell? ⟨lf.b, 0, none⟩ = some (.slice (some ⟨lf.kb, 0, none⟩) n lf.kc) ∧ w'.cell? ⟨B, 1, none⟩ = some (.int .i64 L1.length) := by
    intro w' h
    exact ⟨h.cell (kV.cell a1 (by simp; omega)) (by simp), h.cell (kV.cell hlc1' (by simp; omega)) (by simp), h.cell (kV.cell a3 (by simp; omega)) (by simp), by rw [cell_of (h.at v0 (by simp))]; rfl⟩
  have v2 : V1.cell? ⟨B, 2, none⟩ = some (.int .i64 i) := by rw [cell_of v0]; rfl
  have fV : ∀ o, V1.frozen? ⟨B, o, none⟩ = false := fun o => frozen_of v0
  have HV' : ∀ x, V1.drew.setCell ⟨B, 2, none⟩ x = V1.drew.setCell ⟨B, 2, none⟩ x → (V1.drew.setCell ⟨B, 2, none⟩ x).cell? ⟨mb, 1, none⟩ = some (.slice (some ⟨lb, 0, none⟩) LL lc) ∧ (V1.drew.setCell ⟨B, 2, none⟩ x).cell? ⟨lb, L1.length, none⟩ = some (P lf.b) ∧ (V1.drew.setCell ⟨B, 2, none⟩ x).cell? ⟨lf.b, 0, none⟩ = some (.slice (some ⟨lf.kb, 0, none⟩) n lf.kc) ∧ (V1.drew.setCell ⟨B, 2, none⟩ x).cell? ⟨B, 1, none⟩ = some (.int .i64 L1.length) := by
    intro x _
    have h : Kp [B] V1 (V1.drew.setCell ⟨B, 2, none⟩ x) := ((Kp.refl _ _).drew).setCell (by simp) _
    obtain ⟨e1, e2, e3, e4⟩ := HV V1 (Kp.refl _ _)
    exact ⟨h.cell e1 (by simp; omega), h.cell e2 (by simp; omega), h.cell e3 (by simp; omega), by rw [cell_of (heap_setCell_same' (w := V1.drew) _ v0)]; rfl⟩
  clear a1 a3 c1 fB
  go_region_held3 (fun w' => w'.cell? ⟨mb, 1, none⟩ = some (.slice (some ⟨lb, 0, none⟩) LL lc) ∧ w'.cell? ⟨lb, L1.length, none⟩ = some (P lf.b) ∧ w'.cell? ⟨lf.b, 0, none⟩ = some (.slice (some ⟨lf.kb, 0, none⟩) n lf.kc) ∧ w'.cell? ⟨B, 1, none⟩ = some (.int .i64 L1.length))
    (first | exact HV _ (Kp.refl _ _).drew | exact HV' _ rfl) (fail)
  clear HV' HV
  generalize hD : (V1.setCell ⟨B, 2, none⟩ (.int .i64 n)).drew = X
  have kX : Kp [B] W1 X := by rw [← hD]; exact (kV.setCell (by simp) _).drew
  have y0X : X.heap[B]? = some (.cells (CC mb L1.length n sh) 35) := by rw [← hD]; exact heap_setCell_same' (w := V1) _ v0
  have hXs : X.heap.size = B + 2 := by rw [← hD]; simpa using hV1s
  clear hD kV v0 hV1s v2 fV
  have hm1X := kX.at hm1 (by simp; omega)
  have y1X := kX.at y1 (by simp)
  have hlf1X := kX.at hlf1 (by simp; omega)
  have hlcX := kX.cell hlc1' (by simp; omega)
  have hK1X : Kp [mb] w X := hK1.new kX (by simp; exact .inr HBw)
  have hkeyX : X.ownsRow N 44 3 (.slice (some ⟨lf.kb, 0, none⟩) n lf.kc) n (flat lf.ks) := ownsRow_same hkey1 (fun g hg => by simp [Value.ownBlock] at hg; subst hg; exact kX.block _ (by omega) (by simp; omega))
  have hvalX : X.ownsRow N 49 1 (.slice (some ⟨lf.vb, 0, none⟩) n lf.vc) n (lf.vs.map P) := ownsRow_same hval1 (fun g hg => by simp [Value.ownBlock] at hg; subst hg; exact kX.block _ (by omega) (by simp; omega))
  have hLvX : Lvs N X (.slice (some ⟨lb, 0, none⟩) LL lc) (L1 ++ lf :: L2) := by
    refine hLv1.kp kX (fun x hx => ?_)
    simp at hx
    subst hx
    exact ⟨_, _, y0, by decide, by decide, by decide, by decide⟩
  clear hm1 y1 hlf1 hlc1' hK1 hkey1 hval1 hLv1 hN1 hW1s y0 hlb1 kX W1
  revert X
  intro W1 y0 hW1s hm1 y1 hlf1 hlc1' hK1 hkey1 hval1 hLv1
  have hN1 : N ≤ W1.heap.size := by omega
  have a1 : W1.cell? ⟨mb, 1, none⟩ = some (.slice (some ⟨lb, 0, none⟩) LL lc) := by rw [cell_of hm1]; rfl
  have a3 : W1.cell? ⟨lf.b, 0, none⟩ = some (.slice (some ⟨lf.kb, 0, none⟩) n lf.kc) := by rw [cell_of hlf1]; rfl
  have c1 : W1.cell? ⟨B, 1, none⟩ = some (.int .i64 L1.length) := by rw [cell_of y0]; rfl
  have c2 : W1.cell? ⟨B, 2, none⟩ = some (.int .i64 n) := by rw [cell_of y0]; rfl
  go_upto_region 7 with fail
  go_quiet (fail)
  go_upto_region 11 with fail
  go_quiet (fail)
  go_upto_region 12 with fail
  generalize hD : (W1.drewN _).drewN _ = W2
  have k2 : Kp [] W1 W2 := by rw [← hD]; exact ((Kp.refl _ _).drewN _).drewN _
  have hW2s : W2.heap.size = B + 2 := by rw [← hD]; exact hW1s
  clear hD
  have KA : ∀ w', Kp [] W2 w' → w'.cell? ⟨mb, 1, none⟩ = some (.slice (some ⟨lb, 0, none⟩) LL lc) ∧ w'.cell? ⟨B + 1, 0, none⟩ = some (.int .u8 1) ∧ w'.cell? ⟨B + 1, 1, none⟩ = some (.int .i64 k) ∧ w'.cell? ⟨B + 1, 2, none⟩ = some (.string ⟨#[]⟩) := by
    intro w' h
    have e0 := h.at (k2.at hm1 (by simp)) (by simp)
    have e1 := h.at (k2.at y1 (by simp)) (by simp)
    exact ⟨by rw [cell_of e0]; rfl, by rw [cell_of e1]; rfl, by rw [cell_of e1]; rfl, by rw [cell_of e1]; rfl⟩
  have hrow1 : W1.ownsRow N 82 1 (.slice (some ⟨lb, 0, none⟩) LL lc) LL ((L1 ++ lf :: L2).map fun l => P l.b) := by have := hLv1.row; rwa [← HLL.out] at this
  have hrow2 : ∀ w', Kp [] W2 w' → w'.ownsRow N 82 1 (.slice (some ⟨lb, 0, none⟩) LL lc) LL ((L1 ++ lf :: L2).map fun l => P l.b) := fun w' h => ownsRow_same hrow1 (fun x hx => by simp [Value.ownBlock] at hx; subst hx; exact (k2.trans h).block _ (by omega) (by simp))
  obtain ⟨i0, hi0, hz0, hz1, hz2⟩ := info_parts info82
  have hm2 := k2.at hm1 (by simp)
  clear a1 a3 c1 c2
  refine wp_region_until (z := 15) (S := (fun w' => w'.cell? ⟨mb, 1, none⟩ = some (.slice (some ⟨lb, 0, none⟩) LL lc) ∧ w'.cell? ⟨B + 1, 0, none⟩ = some (.int .u8 1) ∧ w'.cell? ⟨B + 1, 1, none⟩ = some (.int .i64 k) ∧ w'.cell? ⟨B + 1, 2, none⟩ = some (.string ⟨#[]⟩))) (by kernel_rfl) (KA _ (Kp.refl _ _).drew) (fun hHeld => ?_)
  revert hHeld
  generalize hE0 : W2.drew = X0
  intro hHeld
  have kx0 : Kp [] W2 X0 := by rw [← hE0]; exact (Kp.refl _ _).drew
  have sx0 : X0.heap.size = B + 2 := by rw [← hE0]; exact hW2s
  clear hE0
  refine wpAnyU_take (i := 0) (oi := { dst := some 105, op := Go.Op.move (Go.Operand.tmp 0), type := 33, pos := "ordered.go:229", after := #[], guard := none }) (v := ?vv12_0_1) rfl (by kernel_rfl) (by kernel_rfl) (by kernel_rfl) (by kernel_rfl) (fun _ _ _ h => h) (Or.inl ⟨by rfl, ?hy12_0_1⟩) hHeld ?re12_0_1
  case hy12_0_1 => (intro w hSw; (try dsimp only at hSw); go_simp; try with_reducible rfl)
  try simp only [Act.put, List.setIfInBounds_toArray, List.set_cons_zero, List.set_cons_succ]
  refine wpAnyU_take (i := 1) (oi := { dst := some 106, op := Go.Op.move (Go.Operand.tmp 0), type := 33, pos := "ordered.go:229", after := #[], guard := none }) (v := ?vv12_1_2) rfl (by kernel_rfl) (by kernel_rfl) (by kernel_rfl) (by kernel_rfl) (fun _ _ _ h => h) (Or.inl ⟨by rfl, ?hy12_1_2⟩) hHeld ?re12_1_2
  case hy12_1_2 => (intro w hSw; (try dsimp only at hSw); go_simp; try with_reducible rfl)
  try simp only [Act.put, List.setIfInBounds_toArray, List.set_cons_zero, List.set_cons_succ]
  refine wpAnyU_take (i := 2) (oi := { dst := some 107, op := Go.Op.nilCheck (Go.Operand.tmp 106), type := 0, pos := "ordered.go:229", after := #[{ on := 1, ground := Go.Ground.data }], guard := none }) (v := ?vv12_2_3) rfl (by kernel_rfl) (by kernel_rfl) (by kernel_rfl) (by kernel_rfl) (fun _ _ _ h => h) (Or.inl ⟨by rfl, ?hy12_2_3⟩) hHeld ?re12_2_3
  case hy12_2_3 => (intro w hSw; (try dsimp only at hSw); go_simp; try with_reducible rfl)
  try simp only [Act.put, List.setIfInBounds_toArray, List.set_cons_zero, List.set_cons_succ]
  refine wpAnyU_take (i := 3) (oi := { dst := some 108, op := Go.Op.fieldAddr 85 (Go.Operand.tmp 107) 1, type := 0, pos := "ordered.go:229", after := #[{ on := 2, ground := Go.Ground.data }], guard := none }) (v := ?vv12_3_4) rfl (by kernel_rfl) (by kernel_rfl) (by kernel_rfl) (by kernel_rfl) (fun _ _ _ h => h) (Or.inl ⟨by rfl, ?hy12_3_4⟩) hHeld ?re12_3_4
  case hy12_3_4 => (intro w hSw; (try dsimp only at hSw); go_simp; try with_reducible rfl)
  try simp only [Act.put, List.setIfInBounds_toArray, List.set_cons_zero, List.set_cons_succ]
  refine wpAnyU_take (i := 4) (oi := { dst := some 109, op := Go.Op.load 83 (Go.Operand.tmp 108), type := 83, pos := "ordered.go:229", after := #[{ on := 3, ground := Go.Ground.data }], guard := none }) (v := ?vv12_4_5) rfl (by kernel_rfl) (by kernel_rfl) (by kernel_rfl) (by kernel_rfl) (fun _ _ _ h => h) (Or.inl ⟨by rfl, ?hy12_4_5⟩) hHeld ?re12_4_5
  case hy12_4_5 => (intro w hSw; (try dsimp only at hSw); go_simp; try with_reducible rfl)
  try simp only [Act.put, List.setIfInBounds_toArray, List.set_cons_zero, List.set_cons_succ]
  refine wpAnyU_take (i := 5) (oi := { dst := some 110, op := Go.Op.load 44 (Go.Operand.tmp 6), type := 44, pos := "ordered.go:229", after := #[], guard := none }) (v := ?vv12_5_6) rfl (by kernel_rfl) (by kernel_rfl) (by kernel_rfl) (by kernel_rfl) (fun _ _ _ h => h) (Or.inl ⟨by rfl, ?hy12_5_6⟩) hHeld ?re12_5_6
  case hy12_5_6 => (intro w hSw; (try dsimp only at hSw); go_simp; try with_reducible rfl)
  try simp only [Act.put, List.setIfInBounds_toArray, List.set_cons_zero, List.set_cons_succ]
  refine wpAnyU_take (i := 7) (oi := { dst := some 112, op := Go.Op.move (Go.Operand.tmp 3), type := 49, pos := "ordered.go:229", after := #[], guard := none }) (v := ?vv12_7_7) rfl (by kernel_rfl) (by kernel_rfl) (by kernel_rfl) (by kernel_rfl) (fun _ _ _ h => h) (Or.inl ⟨by rfl, ?hy12_7_7⟩) hHeld ?re12_7_7
  case hy12_7_7 => (intro w hSw; (try dsimp only at hSw); go_simp; try with_reducible rfl)
  try simp only [Act.put, List.setIfInBounds_toArray, List.set_cons_zero, List.set_cons_succ]
  refine wpAnyU_ready (rs := [6, 8]) (by kernel_rfl) (by simp) ?_
  refine AllReadyU.cons (o := { dst := some 111, op := Go.Op.buildSlice 70 1 #[(0, Go.Operand.tmp 110)], type := 70, pos := "ordered.go:229", after := #[{ on := 5, ground := Go.Ground.data }], guard := none }) rfl (fun K hK => ?_) ?_
  · skip
    go_simp
    clear hHeld
    refine hK.out _ _ (fun hz => KA _ (kx0.alloc _)) (fun hHeld => ?_)
    clear hK K
    replace hHeld := hHeld (by decide)
    try simp only [Act.put, List.setIfInBounds_toArray, List.set_cons_zero, List.set_cons_succ]
    generalize hE1 : X0.alloc (.cells #[.int .u8 1, .int .i64 k, .string ⟨#[]⟩] 44) = X1
    have kx1 : Kp [] W2 X1 := by rw [← hE1]; exact kx0.alloc _
    have sx1 : X1.heap.size = B + 3 := by rw [← hE1]; simp [sx0]
    have bx1 : X1.heap[B + 2]? = some (.cells #[.int .u8 1, .int .i64 k, .string ⟨#[]⟩] 44) := by rw [← hE1]; exact heap_alloc_at _ _ sx0.symm
    have jx1 : Kp [] X0 X1 := by rw [← hE1]; exact (Kp.refl _ _).alloc _
    rw [hE1] at hHeld
    clear hE1
    refine wpAnyU_ready (rs := [8]) (by kernel_rfl) (by simp) ?_
    refine AllReadyU.cons (o := { dst := some 113, op := Go.Op.buildSlice 79 1 #[(0, Go.Operand.tmp 112)], type := 79, pos := "ordered.go:229", after := #[{ on := 7, ground := Go.Ground.data }], guard := none }) rfl (fun K hK => ?_) AllReadyU.nil
    go_simp
    clear hHeld
    refine hK.out _ _ (fun hz => KA _ (kx1.alloc _)) (fun hHeld => ?_)
    clear hK K
    replace hHeld := hHeld (by decide)
    try simp only [Act.put, List.setIfInBounds_toArray, List.set_cons_zero, List.set_cons_succ]
    generalize hE2 : X1.alloc (.cells #[P v] 49) = X2
    have kx2 : Kp [] W2 X2 := by rw [← hE2]; exact kx1.alloc _
    have sx2 : X2.heap.size = B + 4 := by rw [← hE2]; simp [sx1]
    have bx2 : X2.heap[B + 3]? = some (.cells #[P v] 49) := by rw [← hE2]; exact heap_alloc_at _ _ sx1.symm
    have jx2 : Kp [] X1 X2 := by rw [← hE2]; exact (Kp.refl _ _).alloc _
    rw [hE2] at hHeld
    clear hE2
    refine wpAnyU_take (i := 9) (oi := { dst := some 114, op := Go.Op.build 81 #[(0, Go.Operand.tmp 111), (1, Go.Operand.tmp 113)], type := 81, pos := "ordered.go:229", after := #[{ on := 6, ground := Go.Ground.data }, { on := 8, ground := Go.Ground.data }], guard := none }) (v := ?vv12_9_8) rfl (by kernel_rfl) (by kernel_rfl) (by kernel_rfl) (by kernel_rfl) (fun _ _ _ h => h) (Or.inl ⟨by rfl, ?hy12_9_8⟩) hHeld ?re12_9_8
    case hy12_9_8 => (intro w hSw; (try dsimp only at hSw); go_simp; try with_reducible rfl)
    try simp only [Act.put, List.setIfInBounds_toArray, List.set_cons_zero, List.set_cons_succ]
    refine wpAnyU_ready (rs := [10]) (by kernel_rfl) (by simp) ?_
    refine AllReadyU.cons (o := { dst := some 115, op := Go.Op.box 81 (Go.Operand.tmp 114), type := 82, pos := "ordered.go:229", after := #[{ on := 9, ground := Go.Ground.data }], guard := none }) rfl (fun K hK => ?_) AllReadyU.nil
    go_simp
    clear hHeld
    refine hK.out _ _ (fun hz => KA _ (kx2.alloc _)) (fun hHeld => ?_)
    clear hK K
    replace hHeld := hHeld (by decide)
    try simp only [Act.put, List.setIfInBounds_toArray, List.set_cons_zero, List.set_cons_succ]
    generalize hE3 : X2.alloc (.cells #[.slice (some ⟨B + 2, 0, none⟩) 1 1, .slice (some ⟨B + 3, 0, none⟩) 1 1] 81) = X3
    have kx3 : Kp [] W2 X3 := by rw [← hE3]; exact kx2.alloc _
    have sx3 : X3.heap.size = B + 5 := by rw [← hE3]; simp [sx2]
    have bx3 : X3.heap[B + 4]? = some (.cells #[.slice (some ⟨B + 2, 0, none⟩) 1 1, .slice (some ⟨B + 3, 0, none⟩) 1 1] 81) := by rw [← hE3]; exact heap_alloc_at _ _ sx2.symm
    have jx3 : Kp [] X2 X3 := by rw [← hE3]; exact (Kp.refl _ _).alloc _
    rw [hE3] at hHeld
    clear hE3
    refine wpAnyU_ready (rs := [11]) (by kernel_rfl) (by simp) ?_
    refine AllReadyU.cons (o := { dst := some 116, op := Go.Op.buildSlice 83 1 #[(0, Go.Operand.tmp 115)], type := 83, pos := "ordered.go:229", after := #[{ on := 10, ground := Go.Ground.data }], guard := none }) rfl (fun K hK => ?_) AllReadyU.nil
    go_simp
    clear hHeld
    refine hK.out _ _ (fun hz => KA _ (kx3.alloc _)) (fun hHeld => ?_)
    clear hK K
    replace hHeld := hHeld (by decide)
    try simp only [Act.put, List.setIfInBounds_toArray, List.set_cons_zero, List.set_cons_succ]
    generalize hE4 : X3.alloc (.cells #[.pointer (some ⟨B + 4, 0, none⟩)] 82) = X4
    have kx4 : Kp [] W2 X4 := by rw [← hE4]; exact kx3.alloc _
    have sx4 : X4.heap.size = B + 6 := by rw [← hE4]; simp [sx3]
    have bx4 : X4.heap[B + 5]? = some (.cells #[.pointer (some ⟨B + 4, 0, none⟩)] 82) := by rw [← hE4]; exact heap_alloc_at _ _ sx3.symm
    have jx4 : Kp [] X3 X4 := by rw [← hE4]; exact (Kp.refl _ _).alloc _
    rw [hE4] at hHeld
    clear hE4
    refine wpAnyU_ready (rs := [12]) (by kernel_rfl) (by simp) ?_
    refine AllReadyU.cons (o := { dst := some 117, op := Go.Op.call { callee := Go.Callee.builtin Go.Builtin.append, args := #[Go.Operand.tmp 109, Go.Operand.tmp 116], argTypes := #[83, 83] }, type := 83, pos := "ordered.go:229", after := #[{ on := 4, ground := Go.Ground.data }, { on := 11, ground := Go.Ground.data }], guard := none }) rfl (fun K hK => ?_) AllReadyU.nil
    refine step_append_lies X4 rfl (.tmp 109) (.tmp 116) 83 rfl N 82 i0 (.pointer none) 1 8 Yba.underlying83 hi0 hz0 hz1 hz2 rfl (by decide) (.slice (some ⟨lb, 0, none⟩) LL lc) LL ((L1 ++ lf :: L2).map fun l => P l.b) rfl (hrow2 _ kx4) ⟨B + 5, 0, none⟩ 1 1 [P (B + 4)] rfl rfl (World.news_of_block bx4) (by intro u hu; simp at hu; subst hu; rfl) (by decide) (by unfold maxLen; omega) (by omega) (by omega) (B + 6) sx4 ?_
    intro g cap Y hown hgrow hat hlt
    have kY : Kp [lb] X4 Y := Kp.grown hgrow
    have hmY := kY.at (kx4.at hm2 (by simp)) (by simp; exact q1)
    have e1 : Y.cell? ⟨mb, 1, none⟩ = some (.slice (some ⟨lb, 0, none⟩) LL lc) := by rw [cell_of hmY]; rfl
    have fY : Y.frozen? ⟨mb, 1, none⟩ = false := frozen_of hmY
    clear hHeld
    refine hK.out _ _ (fun hz => ⟨e1, (by have h1 := kY.at (kx4.at (k2.at y1 (by simp)) (by simp)) (by simp; omega); exact ⟨by rw [cell_of h1]; rfl, by rw [cell_of h1]; rfl, by rw [cell_of h1]; rfl⟩)⟩) (fun hHeld => ?_)
    clear hK K
    replace hHeld := hHeld (by decide)
    try simp only [Act.put, List.setIfInBounds_toArray, List.set_cons_zero, List.set_cons_succ]
    refine wpAnyU_ready (rs := [13]) (by kernel_rfl) (by simp) ?_
    refine AllReadyU.cons (o := { dst := some 118, op := Go.Op.nilCheck (Go.Operand.tmp 105), type := 0, pos := "ordered.go:229", after := #[{ on := 0, ground := Go.Ground.data }, { on := 0, ground := Go.Ground.phase }, { on := 1, ground := Go.Ground.phase }, { on := 2, ground := Go.Ground.phase }, { on := 3, ground := Go.Ground.phase }, { on := 4, ground := Go.Ground.phase }, { on := 5, ground := Go.Ground.phase }, { on := 6, ground := Go.Ground.phase }, { on := 7, ground := Go.Ground.phase }, { on := 8, ground := Go.Ground.phase }, { on := 9, ground := Go.Ground.phase }, { on := 10, ground := Go.Ground.phase }, { on := 11, ground := Go.Ground.phase }, { on := 12, ground := Go.Ground.phase }], guard := none }) rfl (fun K hK => ?_) AllReadyU.nil
    go_simp
    clear hHeld
    refine hK.out _ _ (fun hz => ⟨e1, (by have h1 := kY.at (kx4.at (k2.at y1 (by simp)) (by simp)) (by simp; omega); exact ⟨by rw [cell_of h1]; rfl, by rw [cell_of h1]; rfl, by rw [cell_of h1]; rfl⟩)⟩) (fun hHeld => ?_)
    clear hK K
    replace hHeld := hHeld (by decide)
    try simp only [Act.put, List.setIfInBounds_toArray, List.set_cons_zero, List.set_cons_succ]
    refine wpAnyU_take (i := 14) (oi := { dst := some 119, op := Go.Op.fieldAddr 85 (Go.Operand.tmp 118) 1, type := 0, pos := "ordered.go:229", after := #[{ on := 13, ground := Go.Ground.data }, { on := 0, ground := Go.Ground.phase }, { on := 1, ground := Go.Ground.phase }, { on := 2, ground := Go.Ground.phase }, { on := 3, ground := Go.Ground.phase }, { on := 4, ground := Go.Ground.phase }, { on := 5, ground := Go.Ground.phase }, { on := 6, ground := Go.Ground.phase }, { on := 7, ground := Go.Ground.phase }, { on := 8, ground := Go.Ground.phase }, { on := 9, ground := Go.Ground.phase }, { on := 10, ground := Go.Ground.phase }, { on := 11, ground := Go.Ground.phase }, { on := 12, ground := Go.Ground.phase }], guard := none }) (v := ?vv12_14_9) rfl (by kernel_rfl) (by kernel_rfl) (by kernel_rfl) (by kernel_rfl) (fun _ _ _ h => h) (Or.inl ⟨by rfl, ?hy12_14_9⟩) hHeld ?re12_14_9
    case hy12_14_9 => (intro w hSw; (try dsimp only at hSw); go_simp; try with_reducible rfl)
    try simp only [Act.put, List.setIfInBounds_toArray, List.set_cons_zero, List.set_cons_succ]
    refine wpAnyU_ready (rs := [15]) (by kernel_rfl) (by simp) ?_
    refine AllReadyU.cons (o := { dst := none, op := Go.Op.store 83 (Go.Operand.tmp 119) (Go.Operand.tmp 117), type := 0, pos := "ordered.go:229", after := #[{ on := 14, ground := Go.Ground.data }, { on := 12, ground := Go.Ground.data }, { on := 12, ground := Go.Ground.chain }, { on := 0, ground := Go.Ground.phase }, { on := 1, ground := Go.Ground.phase }, { on := 2, ground := Go.Ground.phase }, { on := 3, ground := Go.Ground.phase }, { on := 4, ground := Go.Ground.phase }, { on := 5, ground := Go.Ground.phase }, { on := 6, ground := Go.Ground.phase }, { on := 7, ground := Go.Ground.phase }, { on := 8, ground := Go.Ground.phase }, { on := 9, ground := Go.Ground.phase }, { on := 10, ground := Go.Ground.phase }, { on := 11, ground := Go.Ground.phase }, { on := 12, ground := Go.Ground.phase }], guard := none }) rfl (fun K hK => ?_) AllReadyU.nil
    go_simp
    clear hHeld
    refine hK.out _ _ (fun hz => absurd rfl hz) (fun hHeld => ?_)
    clear hK K
    try simp only [Act.put, List.setIfInBounds_toArray, List.set_cons_zero, List.set_cons_succ]
    refine wpAnyU_done (by kernel_rfl) ?_ _
    clear hHeld
    have FIN : Hid (Ins N mb sh k v (L1 ++ lf :: L2) w (Y.setCell ⟨mb, 1, none⟩ (.slice (some ⟨g, 0, none⟩) (LL + 1) cap))) := by
      have eL2 := HL2.out
      have eN := HN.out
      subst eL2
      refine fin_new (kB := B + 2) (vB := B + 3) (rB := B + 4) hs (by rw [← eN]; exact hA) hbase HLL.out hm hnear (by rw [HLL.out]; exact hL) hK1 hm1 (((k2.trans kx4).any).trans kY) (kY.at (jx4.at (jx3.at (jx2.at bx1 (by simp)) (by simp)) (by simp)) (by simp; omega)) (kY.at (jx4.at (jx3.at bx2 (by simp)) (by simp)) (by simp; omega)) (kY.at (jx4.at bx3 (by simp)) (by simp; omega)) (by omega) (by omega) (by omega) hown hkeysfew
    go_wp2_with fail
    simp [bodyPost, results, Yba.results39]
    exact FIN.out
  refine AllReadyU.cons (o := { dst := some 113, op := Go.Op.buildSlice 79 1 #[(0, Go.Operand.tmp 112)], type := 79, pos := "ordered.go:229", after := #[{ on := 7, ground := Go.Ground.data }], guard := none }) rfl (fun K hK => ?_) AllReadyU.nil
  · skip
    go_simp
    clear hHeld
    refine hK.out _ _ (fun hz => KA _ (kx0.alloc _)) (fun hHeld => ?_)
    clear hK K
    replace hHeld := hHeld (by decide)
    try simp only [Act.put, List.setIfInBounds_toArray, List.set_cons_zero, List.set_cons_succ]
    generalize hE1 : X0.alloc (.cells #[P v] 49) = X1
    have kx1 : Kp [] W2 X1 := by rw [← hE1]; exact kx0.alloc _
    have sx1 : X1.heap.size = B + 3 := by rw [← hE1]; simp [sx0]
    have bx1 : X1.heap[B + 2]? = some (.cells #[P v] 49) := by rw [← hE1]; exact heap_alloc_at _ _ sx0.symm
    have jx1 : Kp [] X0 X1 := by rw [← hE1]; exact (Kp.refl _ _).alloc _
    rw [hE1] at hHeld
    clear hE1
    refine wpAnyU_ready (rs := [6]) (by kernel_rfl) (by simp) ?_
    refine AllReadyU.cons (o := { dst := some 111, op := Go.Op.buildSlice 70 1 #[(0, Go.Operand.tmp 110)], type := 70, pos := "ordered.go:229", after := #[{ on := 5, ground := Go.Ground.data }], guard := none }) rfl (fun K hK => ?_) AllReadyU.nil
    go_simp
    clear hHeld
    refine hK.out _ _ (fun hz => KA _ (kx1.alloc _)) (fun hHeld => ?_)
    clear hK K
    replace hHeld := hHeld (by decide)
    try simp only [Act.put, List.setIfInBounds_toArray, List.set_cons_zero, List.set_cons_succ]
    generalize hE2 : X1.alloc (.cells #[.int .u8 1, .int .i64 k, .string ⟨#[]⟩] 44) = X2
    have kx2 : Kp [] W2 X2 := by rw [← hE2]; exact kx1.alloc _
    have sx2 : X2.heap.size = B + 4 := by rw [← hE2]; simp [sx1]
    have bx2 : X2.heap[B + 3]? = some (.cells #[.int .u8 1, .int .i64 k, .string ⟨#[]⟩] 44) := by rw [← hE2]; exact heap_alloc_at _ _ sx1.symm
    have jx2 : Kp [] X1 X2 := by rw [← hE2]; exact (Kp.refl _ _).alloc _
    rw [hE2] at hHeld
    clear hE2
    refine wpAnyU_take (i := 9) (oi := { dst := some 114, op := Go.Op.build 81 #[(0, Go.Operand.tmp 111), (1, Go.Operand.tmp 113)], type := 81, pos := "ordered.go:229", after := #[{ on := 6, ground := Go.Ground.data }, { on := 8, ground := Go.Ground.data }], guard := none }) (v := ?vv12_9_10) rfl (by kernel_rfl) (by kernel_rfl) (by kernel_rfl) (by kernel_rfl) (fun _ _ _ h => h) (Or.inl ⟨by rfl, ?hy12_9_10⟩) hHeld ?re12_9_10
    case hy12_9_10 => (intro w hSw; (try dsimp only at hSw); go_simp; try with_reducible rfl)
    try simp only [Act.put, List.setIfInBounds_toArray, List.set_cons_zero, List.set_cons_succ]
    refine wpAnyU_ready (rs := [10]) (by kernel_rfl) (by simp) ?_
    refine AllReadyU.cons (o := { dst := some 115, op := Go.Op.box 81 (Go.Operand.tmp 114), type := 82, pos := "ordered.go:229", after := #[{ on := 9, ground := Go.Ground.data }], guard := none }) rfl (fun K hK => ?_) AllReadyU.nil
    go_simp
    clear hHeld
    refine hK.out _ _ (fun hz => KA _ (kx2.alloc _)) (fun hHeld => ?_)
    clear hK K
    replace hHeld := hHeld (by decide)
    try simp only [Act.put, List.setIfInBounds_toArray, List.set_cons_zero, List.set_cons_succ]
    generalize hE3 : X2.alloc (.cells #[.slice (some ⟨B + 3, 0, none⟩) 1 1, .slice (some ⟨B + 2, 0, none⟩) 1 1] 81) = X3
    have kx3 : Kp [] W2 X3 := by rw [← hE3]; exact kx2.alloc _
    have sx3 : X3.heap.size = B + 5 := by rw [← hE3]; simp [sx2]
    have bx3 : X3.heap[B + 4]? = some (.cells #[.slice (some ⟨B + 3, 0, none⟩) 1 1, .slice (some ⟨B + 2, 0, none⟩) 1 1] 81) := by rw [← hE3]; exact heap_alloc_at _ _ sx2.symm
    have jx3 : Kp [] X2 X3 := by rw [← hE3]; exact (Kp.refl _ _).alloc _
    rw [hE3] at hHeld
    clear hE3
    refine wpAnyU_ready (rs := [11]) (by kernel_rfl) (by simp) ?_
    refine AllReadyU.cons (o := { dst := some 116, op := Go.Op.buildSlice 83 1 #[(0, Go.Operand.tmp 115)], type := 83, pos := "ordered.go:229", after := #[{ on := 10, ground := Go.Ground.data }], guard := none }) rfl (fun K hK => ?_) AllReadyU.nil
    go_simp
    clear hHeld
    refine hK.out _ _ (fun hz => KA _ (kx3.alloc _)) (fun hHeld => ?_)
    clear hK K
    replace hHeld := hHeld (by decide)
    try simp only [Act.put, List.setIfInBounds_toArray, List.set_cons_zero, List.set_cons_succ]
    generalize hE4 : X3.alloc (.cells #[.pointer (some ⟨B + 4, 0, none⟩)] 82) = X4
    have kx4 : Kp [] W2 X4 := by rw [← hE4]; exact kx3.alloc _
    have sx4 : X4.heap.size = B + 6 := by rw [← hE4]; simp [sx3]
    have bx4 : X4.heap[B + 5]? = some (.cells #[.pointer (some ⟨B + 4, 0, none⟩)] 82) := by rw [← hE4]; exact heap_alloc_at _ _ sx3.symm
    have jx4 : Kp [] X3 X4 := by rw [← hE4]; exact (Kp.refl _ _).alloc _
    rw [hE4] at hHeld
    clear hE4
    refine wpAnyU_ready (rs := [12]) (by kernel_rfl) (by simp) ?_
    refine AllReadyU.cons (o := { dst := some 117, op := Go.Op.call { callee := Go.Callee.builtin Go.Builtin.append, args := #[Go.Operand.tmp 109, Go.Operand.tmp 116], argTypes := #[83, 83] }, type := 83, pos := "ordered.go:229", after := #[{ on := 4, ground := Go.Ground.data }, { on := 11, ground := Go.Ground.data }], guard := none }) rfl (fun K hK => ?_) AllReadyU.nil
    refine step_append_lies X4 rfl (.tmp 109) (.tmp 116) 83 rfl N 82 i0 (.pointer none) 1 8 Yba.underlying83 hi0 hz0 hz1 hz2 rfl (by decide) (.slice (some ⟨lb, 0, none⟩) LL lc) LL ((L1 ++ lf :: L2).map fun l => P l.b) rfl (hrow2 _ kx4) ⟨B + 5, 0, none⟩ 1 1 [P (B + 4)] rfl rfl (World.news_of_block bx4) (by intro u hu; simp at hu; subst hu; rfl) (by decide) (by unfold maxLen; omega) (by omega) (by omega) (B + 6) sx4 ?_
    intro g cap Y hown hgrow hat hlt
    have kY : Kp [lb] X4 Y := Kp.grown hgrow
    have hmY := kY.at (kx4.at hm2 (by simp)) (by simp; exact q1)
    have e1 : Y.cell? ⟨mb, 1, none⟩ = some (.slice (some ⟨lb, 0, none⟩) LL lc) := by rw [cell_of hmY]; rfl
    have fY : Y.frozen? ⟨mb, 1, none⟩ = false := frozen_of hmY
    clear hHeld
    refine hK.out _ _ (fun hz => ⟨e1, (by have h1 := kY.at (kx4.at (k2.at y1 (by simp)) (by simp)) (by simp; omega); exact ⟨by rw [cell_of h1]; rfl, by rw [cell_of h1]; rfl, by rw [cell_of h1]; rfl⟩)⟩) (fun hHeld => ?_)
    clear hK K
    replace hHeld := hHeld (by decide)
    try simp only [Act.put, List.setIfInBounds_toArray, List.set_cons_zero, List.set_cons_succ]
    refine wpAnyU_ready (rs := [13]) (by kernel_rfl) (by simp) ?_
    refine AllReadyU.cons (o := { dst := some 118, op := Go.Op.nilCheck (Go.Operand.tmp 105), type := 0, pos := "ordered.go:229", after := #[{ on := 0, ground := Go.Ground.data }, { on := 0, ground := Go.Ground.phase }, { on := 1, ground := Go.Ground.phase }, { on := 2, ground := Go.Ground.phase }, { on := 3, ground := Go.Ground.phase }, { on := 4, ground := Go.Ground.phase }, { on := 5, ground := Go.Ground.phase }, { on := 6, ground := Go.Ground.phase }, { on := 7, ground := Go.Ground.phase }, { on := 8, ground := Go.Ground.phase }, { on := 9, ground := Go.Ground.phase }, { on := 10, ground := Go.Ground.phase }, { on := 11, ground := Go.Ground.phase }, { on := 12, ground := Go.Ground.phase }], guard := none }) rfl (fun K hK => ?_) AllReadyU.nil
    go_simp
    clear hHeld
    refine hK.out _ _ (fun hz => ⟨e1, (by have h1 := kY.at (kx4.at (k2.at y1 (by simp)) (by simp)) (by simp; omega); exact ⟨by rw [cell_of h1]; rfl, by rw [cell_of h1]; rfl, by rw [cell_of h1]; rfl⟩)⟩) (fun hHeld => ?_)
    clear hK K
    replace hHeld := hHeld (by decide)
    try simp only [Act.put, List.setIfInBounds_toArray, List.set_cons_zero, List.set_cons_succ]
    refine wpAnyU_take (i := 14) (oi := { dst := some 119, op := Go.Op.fieldAddr 85 (Go.Operand.tmp 118) 1, type := 0, pos := "ordered.go:229", after := #[{ on := 13, ground := Go.Ground.data }, { on := 0, ground := Go.Ground.phase }, { on := 1, ground := Go.Ground.phase }, { on := 2, ground := Go.Ground.phase }, { on := 3, ground := Go.Ground.phase }, { on := 4, ground := Go.Ground.phase }, { on := 5, ground := Go.Ground.phase }, { on := 6, ground := Go.Ground.phase }, { on := 7, ground := Go.Ground.phase }, { on := 8, ground := Go.Ground.phase }, { on := 9, ground := Go.Ground.phase }, { on := 10, ground := Go.Ground.phase }, { on := 11, ground := Go.Ground.phase }, { on := 12, ground := Go.Ground.phase }], guard := none }) (v := ?vv12_14_11) rfl (by kernel_rfl) (by kernel_rfl) (by kernel_rfl) (by kernel_rfl) (fun _ _ _ h => h) (Or.inl ⟨by rfl, ?hy12_14_11⟩) hHeld ?re12_14_11
    case hy12_14_11 => (intro w hSw; (try dsimp only at hSw); go_simp; try with_reducible rfl)
    try simp only [Act.put, List.setIfInBounds_toArray, List.set_cons_zero, List.set_cons_succ]
    refine wpAnyU_ready (rs := [15]) (by kernel_rfl) (by simp) ?_
    refine AllReadyU.cons (o := { dst := none, op := Go.Op.store 83 (Go.Operand.tmp 119) (Go.Operand.tmp 117), type := 0, pos := "ordered.go:229", after := #[{ on := 14, ground := Go.Ground.data }, { on := 12, ground := Go.Ground.data }, { on := 12, ground := Go.Ground.chain }, { on := 0, ground := Go.Ground.phase }, { on := 1, ground := Go.Ground.phase }, { on := 2, ground := Go.Ground.phase }, { on := 3, ground := Go.Ground.phase }, { on := 4, ground := Go.Ground.phase }, { on := 5, ground := Go.Ground.phase }, { on := 6, ground := Go.Ground.phase }, { on := 7, ground := Go.Ground.phase }, { on := 8, ground := Go.Ground.phase }, { on := 9, ground := Go.Ground.phase }, { on := 10, ground := Go.Ground.phase }, { on := 11, ground := Go.Ground.phase }, { on := 12, ground := Go.Ground.phase }], guard := none }) rfl (fun K hK => ?_) AllReadyU.nil
    go_simp
    clear hHeld
    refine hK.out _ _ (fun hz => absurd rfl hz) (fun hHeld => ?_)
    clear hK K
    try simp only [Act.put, List.setIfInBounds_toArray, List.set_cons_zero, List.set_cons_succ]
    refine wpAnyU_done (by kernel_rfl) ?_ _
    clear hHeld
    have FIN : Hid (Ins N mb sh k v (L1 ++ lf :: L2) w (Y.setCell ⟨mb, 1, none⟩ (.slice (some ⟨g, 0, none⟩) (LL + 1) cap))) := by
      have eL2 := HL2.out
      have eN := HN.out
      subst eL2
      refine fin_new (kB := B + 3) (vB := B + 2) (rB := B + 4) hs (by rw [← eN]; exact hA) hbase HLL.out hm hnear (by rw [HLL.out]; exact hL) hK1 hm1 (((k2.trans kx4).any).trans kY) (kY.at (jx4.at (jx3.at bx2 (by simp)) (by simp)) (by simp; omega)) (kY.at (jx4.at (jx3.at (jx2.at bx1 (by simp)) (by simp)) (by simp)) (by simp; omega)) (kY.at (jx4.at bx3 (by simp)) (by simp; omega)) (by omega) (by omega) (by omega) hown hkeysfew
    go_wp2_with fail
    simp [bodyPost, results, Yba.results39]
    exact FIN.out
end Go.Proofs.Ybulkcnom
