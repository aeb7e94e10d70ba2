/-
  Seat b4471a, Forward and Back: insert at the end of the last leaf, which has room.
-/
import Derived.Test.YbulkcnomFin
namespace Go.Proofs.Ybulkcnom
open Go.RowKit
attribute [local go_sem ↓] Go.wp_at_zero Go.wp_at_succ
set_option maxRecDepth 20000 in
set_option maxHeartbeats 1600000 in
theorem insert_last (N mb i v : Nat) (sh k : Int) (L1 L2 : List Leaf) (lf : Leaf) (w : World) (hR : Rep N w mb sh (L1 ++ lf :: L2)) (h0 : 0 ≤ sh) (h1 : sh < 100000) (hs : Srt (L1 ++ lf :: L2)) (hL2 : L2 = []) (hroom : lf.ks.length < 128) (hkeysfew : (keysOf (L1 ++ lf :: L2)).length < 300)
    (hA : ∀ x ∈ keysOf L1 ++ lf.ks.take lf.ks.length, x < k) (hZ : ∀ x ∈ lf.ks.drop lf.ks.length ++ keysOf L2, k < x) :
    Calls Yba.prog 39 #[P mb, .agg (CC mb (L1.length + 1 : Nat) i sh), V k, P v] w fun e w' => e = .returned (.tuple #[]) ∧ Ins N mb sh k v (L1 ++ lf :: L2) w w' := by
  obtain ⟨l, hl⟩ : ∃ l, l = L1.length + 1 := ⟨_, rfl⟩
  rw [← hl]
  obtain ⟨lv, near, hm, hnear, hL⟩ := hR.has
  have hbase := hR.base
  obtain ⟨lb, lc, rfl⟩ : ∃ lb lc, lv = .slice (some ⟨lb, 0, none⟩) (L1 ++ lf :: L2).length lc := by
    obtain ⟨g, cap, h, _⟩ := hL.row.form (by simp; omega)
    exact ⟨g, cap, h⟩
  obtain ⟨LL, hLL⟩ : ∃ LL, LL = (L1 ++ lf :: L2).length := ⟨_, rfl⟩
  have hfew := hL.few
  have hrow := hL.row
  have hmap : ((L1 ++ lf :: L2).map fun l => P l.b)[L1.length]? = some (P lf.b) := by simp
  obtain ⟨lcur, hlb, hNlb, hlc1, hlc2, hlc3, hlc4⟩ := ownsRow_blk hrow
  have hlf := hL.leaf lf (by simp)
  obtain ⟨n, hn⟩ : ∃ n, n = lf.ks.length := ⟨_, rfl⟩
  obtain ⟨kcur, hkb, hNkb, hkc1, hkc2, hkc3, hkc4⟩ := ownsRow_blk hlf.keys
  obtain ⟨vcur, hvb, hNvb, hvc1, hvc2, hvc3, hvc4⟩ := ownsRow_blk hlf.vals
  have hlfb := hlf.blk
  have hNb := hlf.base
  have hkeys := hlf.keys
  have hvals := hlf.vals
  rw [← hn] at hlfb hkeys hvals hkc1 hvc1
  have hn1 := hlf.pos
  have hn2 := hlf.few
  rw [← hn] at hn1 hn2
  rw [← hLL] at hm hlc1 hfew hrow
  have hlcell : w.cell? ⟨lb, L1.length, none⟩ = some (P lf.b) := by
    rw [hrow.cellAt _ (by rw [hLL]; simp)]
    simp
  obtain ⟨B, hB⟩ : ∃ B, B = w.heap.size := ⟨_, rfl⟩
  have lmb := lt_of hm
  have llb := lt_of hlb
  have llf := lt_of hlfb
  have lkb := lt_of hkb
  have lvb := lt_of hvb
  rw [← hB] at lmb llb llf lkb lvb
  have q1 : mb ≠ lb := ne_kind hm hlb (by decide)
  have q2 : mb ≠ lf.b := ne_kind hm hlfb (by decide)
  have q3 : mb ≠ lf.kb := ne_kind hm hkb (by decide)
  have q4 : mb ≠ lf.vb := ne_kind hm hvb (by decide)
  have q5 : lf.b ≠ lf.kb := ne_kind hlfb hkb (by decide)
  have q6 : lf.b ≠ lf.vb := ne_kind hlfb hvb (by decide)
  have q7 : lf.kb ≠ lf.vb := ne_kind hkb hvb (by decide)
  have q8 : lb ≠ lf.b := ne_kind hlb hlfb (by decide)
  have q9 : lb ≠ lf.kb := ne_kind hlb hkb (by decide)
  have q10 : lb ≠ lf.vb := ne_kind hlb hvb (by decide)
  obtain ⟨W, hW⟩ : ∃ W, W = ((w.alloc (.cells (CC mb l i sh) 35)).alloc (.cells (VC k) 44)) := ⟨_, rfl⟩
  have hK : Kp [] w W := by rw [hW]; exact ((Kp.refl _ _).alloc _).alloc _
  have hmW : W.heap[mb]? = some (.cells (MC (.slice (some ⟨lb, 0, none⟩) LL lc) near sh) 85) := hK.at hm (by simp)
  have x0 : W.heap[B]? = some (.cells (CC mb l i sh) 35) := by rw [hW, hB]; exact ((Kp.refl [] _).alloc _).at (heap_alloc_same _ _) (by simp)
  have x1 : W.heap[B + 1]? = some (.cells (VC k) 44) := by rw [hW, hB]; exact heap_alloc_at _ _ (by simp)
  have hWs : W.heap.size = B + 2 := by rw [hW, hB]; simp
  have p3 : W.cell? ⟨mb, 3, none⟩ = some (.int .u64 sh) := by rw [cell_of hmW]; rfl
  have p1 : W.cell? ⟨mb, 1, none⟩ = some (.slice (some ⟨lb, 0, none⟩) LL lc) := by rw [cell_of hmW]; rfl
  have pf : W.frozen? ⟨mb, 3, none⟩ = false := frozen_of hmW
  have hwr : IntKind.u64.wrap (sh + 1) = sh + 1 := by rw [IntKind.wrap_u64]; omega
  obtain ⟨W1, hW1⟩ : ∃ W1, W1 = W.setCell ⟨mb, 3, none⟩ (.int .u64 (sh + 1)) := ⟨_, rfl⟩
  have hW1s : W1.heap.size = B + 2 := by rw [hW1]; simpa using hWs
  have hm1 : W1.heap[mb]? = some (.cells (MC (.slice (some ⟨lb, 0, none⟩) LL lc) near (sh + 1)) 85) := by rw [hW1]; exact heap_setCell_same' _ hmW
  have hK1 : Kp [mb] w W1 := by rw [hW1]; exact hK.any.setCell (by simp) _
  have y0 : W1.heap[B]? = some (.cells (CC mb l i sh) 35) := by rw [hW1, Below.heap_setCell _ _ _ _ (by simp; omega)]; exact x0
  have y1 : W1.heap[B + 1]? = some (.cells (VC k) 44) := by rw [hW1, Below.heap_setCell _ _ _ _ (by simp; omega)]; exact x1
  have hlf1 := hK1.at hlfb (by simp; exact q2.symm)
  have hlb1 := hK1.at hlb (by simp; exact q1.symm)
  have hlc1' : W1.cell? ⟨lb, L1.length, none⟩ = some (P lf.b) := by rw [cell_of hlb1]; rw [cell_of hlb] at hlcell; exact hlcell
  have hkey1 : W1.ownsRow N 44 3 (.slice (some ⟨lf.kb, 0, none⟩) n lf.kc) n (flat lf.ks) := ownsRow_same hkeys (fun g hg => by simp [Value.ownBlock] at hg; subst hg; exact hK1.block _ (by omega) (by simp; exact q3.symm))
  have hval1 : W1.ownsRow N 49 1 (.slice (some ⟨lf.vb, 0, none⟩) n lf.vc) n (lf.vs.map P) := ownsRow_same hvals (fun g hg => by simp [Value.ownBlock] at hg; subst hg; exact hK1.block _ (by omega) (by simp; exact q4.symm))
  have hLv1 : Lvs N W1 (.slice (some ⟨lb, 0, none⟩) LL lc) (L1 ++ lf :: L2) := by
    rw [hLL]
    refine hL.kp hK1 (fun x hx => ?_)
    simp at hx
    subst hx
    exact ⟨_, _, hm, by decide, by decide, by decide, by decide⟩
  have hN1 : N ≤ W1.heap.size := by omega
  rw [← hn] at hroom hA hZ
  have hLl : LL = l := by rw [hLL, hL2, hl]; simp
  subst hLl
  have a1 : W1.cell? ⟨mb, 1, none⟩ = some (.slice (some ⟨lb, 0, none⟩) LL lc) := by rw [cell_of hm1]; rfl
  have a3 : W1.cell? ⟨lf.b, 0, none⟩ = some (.slice (some ⟨lf.kb, 0, none⟩) n lf.kc) := by rw [cell_of hlf1]; rfl
  have c1 : W1.cell? ⟨B, 1, none⟩ = some (.int .i64 LL) := by rw [cell_of y0]; rfl
  have fB : ∀ o, W1.frozen? ⟨B, o, none⟩ = false := fun o => frozen_of y0
  have g1 : ((LL : Int) == 0) = false := by simp; omega
  have g3 : (L1.length : Int) < (LL : Int) := by omega
  have g4 : (n : Int) < 128 := by omega
  have g4' : decide ((n : Int) < 128) = true := by simp; omega
  have hws : IntKind.i64.wrap ((LL : Int) - 1) = (L1.length : Int) := by rw [IntKind.wrap_i64]; omega
  have HN : Hid (n = lf.ks.length) := hn
  have HLL : Hid (LL = (L1 ++ lf :: L2).length) := hLL
  have Hl : Hid (LL = L1.length + 1) := hl
  clear hn hLL hl
  have HBw : w.heap.size ≤ B := by omega
  have HL2 : Hid (L2 = []) := hL2
  clear hL2
  go_enter Yba.func39, Yba.ntmps39
  go_upto_region 1 with fail
  rw [← hW, ← hB]
  clear hW hB
  go_upto_if 18 with fail
  rw [← hW1]
  clear hW1 p1 p3 pf
  go_upto_region 4 with fail
  go_quiet (fail)
  go_upto_region 6 with fail
  generalize hD : (W1.drewN nq).setCell ⟨B, 1, none⟩ (.int .i64 L1.length) = V1
  have kV : Kp [B] W1 V1 := by rw [← hD]; exact ((Kp.refl _ _).drewN _).setCell (by simp) _
  have v0 : V1.heap[B]? = some (.cells (CC mb L1.length i sh) 35) := by rw [← hD]; exact heap_setCell_same' (w := W1.drewN nq) _ y0
  have hV1s : V1.heap.size = B + 2 := by rw [← hD]; simpa using hW1s
  clear hD
  have HV : ∀ w', Kp [] V1 w' → w'.cell? ⟨mb, 1, none⟩ = some (.slice (some ⟨lb, 0, none⟩) LL lc) ∧ w'.cell? ⟨lb, L1.length, none⟩ = some (P lf.b) ∧ w'.cell? ⟨lf.b, 0, none⟩ = some (.slice (some ⟨lf.kb, 0, none⟩) n lf.kc) ∧ w'.cell? ⟨B, 1, none⟩ = some (.int .i64 L1.length) := by
    intro w' h
    exact ⟨h.cell (kV.cell a1 (by simp; omega)) (by simp), h.cell (kV.cell hlc1' (by simp; omega)) (by simp), h.cell (kV.cell a3 (by simp; omega)) (by simp), by rw [cell_of (h.at v0 (by simp))]; rfl⟩
  have v2 : V1.cell? ⟨B, 2, none⟩ = some (.int .i64 i) := by rw [cell_of v0]; rfl
  have fV : ∀ o, V1.frozen? ⟨B, o, none⟩ = false := fun o => frozen_of v0
  have HV' : ∀ x, V1.drew.setCell ⟨B, 2, none⟩ x = V1.drew.setCell ⟨B, 2, none⟩ x → (V1.drew.setCell ⟨B, 2, none⟩ x).cell? ⟨mb, 1, none⟩ = some (.slice (some ⟨lb, 0, none⟩) LL lc) ∧ (V1.drew.setCell ⟨B, 2, none⟩ x).cell? ⟨lb, L1.length, none⟩ = some (P lf.b) ∧ (V1.drew.setCell ⟨B, 2, none⟩ x).cell? ⟨lf.b, 0, none⟩ = some (.slice (some ⟨lf.kb, 0, none⟩) n lf.kc) ∧ (V1.drew.setCell ⟨B, 2, none⟩ x).cell? ⟨B, 1, none⟩ = some (.int .i64 L1.length) := by
    intro x _
    have h : Kp [B] V1 (V1.drew.setCell ⟨B, 2, none⟩ x) := ((Kp.refl _ _).drew).setCell (by simp) _
    obtain ⟨e1, e2, e3, e4⟩ := HV V1 (Kp.refl _ _)
    exact ⟨h.cell e1 (by simp; omega), h.cell e2 (by simp; omega), h.cell e3 (by simp; omega), by rw [cell_of (heap_setCell_same' (w := V1.drew) _ v0)]; rfl⟩
  clear a1 a3 c1 fB
  go_region_held3 (fun w' => w'.cell? ⟨mb, 1, none⟩ = some (.slice (some ⟨lb, 0, none⟩) LL lc) ∧ w'.cell? ⟨lb, L1.length, none⟩ = some (P lf.b) ∧ w'.cell? ⟨lf.b, 0, none⟩ = some (.slice (some ⟨lf.kb, 0, none⟩) n lf.kc) ∧ w'.cell? ⟨B, 1, none⟩ = some (.int .i64 L1.length))
    (first | exact HV _ (Kp.refl _ _).drew | exact HV' _ rfl) (fail)
  clear HV' HV
  generalize hD : (V1.setCell ⟨B, 2, none⟩ (.int .i64 n)).drew = X
  have kX : Kp [B] W1 X := by rw [← hD]; exact (kV.setCell (by simp) _).drew
  have y0X : X.heap[B]? = some (.cells (CC mb L1.length n sh) 35) := by rw [← hD]; exact heap_setCell_same' (w := V1) _ v0
  have hXs : X.heap.size = B + 2 := by rw [← hD]; simpa using hV1s
  clear hD kV v0 hV1s v2 fV
  have hm1X := kX.at hm1 (by simp; omega)
  have y1X := kX.at y1 (by simp)
  have hlf1X := kX.at hlf1 (by simp; omega)
  have hlcX := kX.cell hlc1' (by simp; omega)
  have hK1X : Kp [mb] w X := hK1.new kX (by simp; exact .inr HBw)
  have hkeyX : X.ownsRow N 44 3 (.slice (some ⟨lf.kb, 0, none⟩) n lf.kc) n (flat lf.ks) := ownsRow_same hkey1 (fun g hg => by simp [Value.ownBlock] at hg; subst hg; exact kX.block _ (by omega) (by simp; omega))
  have hvalX : X.ownsRow N 49 1 (.slice (some ⟨lf.vb, 0, none⟩) n lf.vc) n (lf.vs.map P) := ownsRow_same hval1 (fun g hg => by simp [Value.ownBlock] at hg; subst hg; exact kX.block _ (by omega) (by simp; omega))
  have hLvX : Lvs N X (.slice (some ⟨lb, 0, none⟩) LL lc) (L1 ++ lf :: L2) := by
    refine hLv1.kp kX (fun x hx => ?_)
    simp at hx
    subst hx
    exact ⟨_, _, y0, by decide, by decide, by decide, by decide⟩
  clear hm1 y1 hlf1 hlc1' hK1 hkey1 hval1 hLv1 hN1 hW1s y0 hlb1 kX W1
  revert X
  intro W1 y0 hW1s hm1 y1 hlf1 hlc1' hK1 hkey1 hval1 hLv1
  have hN1 : N ≤ W1.heap.size := by omega
  have a1 : W1.cell? ⟨mb, 1, none⟩ = some (.slice (some ⟨lb, 0, none⟩) LL lc) := by rw [cell_of hm1]; rfl
  have a3 : W1.cell? ⟨lf.b, 0, none⟩ = some (.slice (some ⟨lf.kb, 0, none⟩) n lf.kc) := by rw [cell_of hlf1]; rfl
  have c1 : W1.cell? ⟨B, 1, none⟩ = some (.int .i64 L1.length) := by rw [cell_of y0]; rfl
  have c2 : W1.cell? ⟨B, 2, none⟩ = some (.int .i64 n) := by rw [cell_of y0]; rfl
  have KS : ∀ w', Kp [lf.kb, lf.b, lf.vb] W1 w' → w'.cell? ⟨B, 2, none⟩ = some (.int .i64 n) ∧ w'.cell? ⟨B + 1, 0, none⟩ = some (.int .u8 1) ∧ w'.cell? ⟨B + 1, 1, none⟩ = some (.int .i64 k) ∧ w'.cell? ⟨B + 1, 2, none⟩ = some (.string ⟨#[]⟩) := by
    intro w' h
    have e0 := h.at y0 (by simp; omega)
    have e1 := h.at y1 (by simp; omega)
    exact ⟨by rw [cell_of e0]; rfl, by rw [cell_of e1]; rfl, by rw [cell_of e1]; rfl, by rw [cell_of e1]; rfl⟩
  have hI := fun w' (h : Kp [] W1 w') => insK N lf.kb lf.kc n n k (flat lf.ks) w' (ownsRow_same hkey1 (fun g hg => by simp [Value.ownBlock] at hg; subst hg; exact h.block _ (by omega) (by simp))) (flat_one _) (by omega) (by omega) (Nat.le_trans hN1 h.size)
  go_upto_region 7 with fail
  go_quiet (fail)
  go_upto_region 9 with fail
  generalize hD : W1.drewN _ = W2
  have k2 : Kp [] W1 W2 := by rw [← hD]; exact (Kp.refl _ _).drewN _
  clear hD
  have d3 : W2.cell? ⟨lf.b, 0, none⟩ = some (.slice (some ⟨lf.kb, 0, none⟩) n lf.kc) := by rw [cell_of (k2.at hlf1 (by simp))]; rfl
  refine wp_region_held_drew (S := (fun w' => w'.cell? ⟨B, 2, none⟩ = some (.int .i64 n) ∧ w'.cell? ⟨B + 1, 0, none⟩ = some (.int .u8 1) ∧ w'.cell? ⟨B + 1, 1, none⟩ = some (.int .i64 k) ∧ w'.cell? ⟨B + 1, 2, none⟩ = some (.string ⟨#[]⟩))) (by kernel_rfl) (KS _ k2.any.drew) (fun hHeld => ?_)
  refine wpAnyH_take (i := 0) (oi := { dst := some 75, op := Go.Op.move (Go.Operand.tmp 8), type := 82, pos := "ordered.go:219", after := #[], guard := none }) (v := ?vv9_0) rfl (by kernel_rfl) (by kernel_rfl) (by kernel_rfl) (fun _ _ _ h => h) (Or.inl ⟨by rfl, ?hy9_0⟩) hHeld ?re9_0
  case hy9_0 => (intro w hSw; (try dsimp only at hSw); go_simp; try with_reducible rfl)
  try simp only [Act.put, List.setIfInBounds_toArray, List.set_cons_zero, List.set_cons_succ]
  refine wpAnyH_take (i := 1) (oi := { dst := some 76, op := Go.Op.move (Go.Operand.tmp 8), type := 82, pos := "ordered.go:219", after := #[], guard := none }) (v := ?vv9_1) rfl (by kernel_rfl) (by kernel_rfl) (by kernel_rfl) (fun _ _ _ h => h) (Or.inl ⟨by rfl, ?hy9_1⟩) hHeld ?re9_1
  case hy9_1 => (intro w hSw; (try dsimp only at hSw); go_simp; try with_reducible rfl)
  try simp only [Act.put, List.setIfInBounds_toArray, List.set_cons_zero, List.set_cons_succ]
  refine wpAnyH_take (i := 2) (oi := { dst := some 77, op := Go.Op.nilCheck (Go.Operand.tmp 76), type := 0, pos := "ordered.go:219", after := #[{ on := 1, ground := Go.Ground.data }], guard := none }) (v := ?vv9_2) rfl (by kernel_rfl) (by kernel_rfl) (by kernel_rfl) (fun _ _ _ h => h) (Or.inl ⟨by rfl, ?hy9_2⟩) hHeld ?re9_2
  case hy9_2 => (intro w hSw; (try dsimp only at hSw); go_simp; try with_reducible rfl)
  try simp only [Act.put, List.setIfInBounds_toArray, List.set_cons_zero, List.set_cons_succ]
  refine wpAnyH_take (i := 3) (oi := { dst := some 78, op := Go.Op.fieldAddr 81 (Go.Operand.tmp 77) 0, type := 0, pos := "ordered.go:219", after := #[{ on := 2, ground := Go.Ground.data }], guard := none }) (v := ?vv9_3) rfl (by kernel_rfl) (by kernel_rfl) (by kernel_rfl) (fun _ _ _ h => h) (Or.inl ⟨by rfl, ?hy9_3⟩) hHeld ?re9_3
  case hy9_3 => (intro w hSw; (try dsimp only at hSw); go_simp; try with_reducible rfl)
  try simp only [Act.put, List.setIfInBounds_toArray, List.set_cons_zero, List.set_cons_succ]
  refine wpAnyH_take (i := 5) (oi := { dst := some 80, op := Go.Op.fieldAddr 35 (Go.Operand.tmp 5) 2, type := 0, pos := "ordered.go:219", after := #[], guard := none }) (v := ?vv9_5) rfl (by kernel_rfl) (by kernel_rfl) (by kernel_rfl) (fun _ _ _ h => h) (Or.inl ⟨by rfl, ?hy9_5⟩) hHeld ?re9_5
  case hy9_5 => (intro w hSw; (try dsimp only at hSw); go_simp; try with_reducible rfl)
  try simp only [Act.put, List.setIfInBounds_toArray, List.set_cons_zero, List.set_cons_succ]
  refine wpAnyH_take (i := 6) (oi := { dst := some 81, op := Go.Op.load 3 (Go.Operand.tmp 80), type := 3, pos := "ordered.go:219", after := #[{ on := 5, ground := Go.Ground.data }], guard := none }) (v := ?vv9_6) rfl (by kernel_rfl) (by kernel_rfl) (by kernel_rfl) (fun _ _ _ h => h) (Or.inl ⟨by rfl, ?hy9_6⟩) hHeld ?re9_6
  case hy9_6 => (intro w hSw; (try dsimp only at hSw); go_simp; try with_reducible rfl)
  try simp only [Act.put, List.setIfInBounds_toArray, List.set_cons_zero, List.set_cons_succ]
  refine wpAnyH_take (i := 7) (oi := { dst := some 82, op := Go.Op.load 44 (Go.Operand.tmp 6), type := 44, pos := "ordered.go:219", after := #[], guard := none }) (v := ?vv9_7) rfl (by kernel_rfl) (by kernel_rfl) (by kernel_rfl) (fun _ _ _ h => h) (Or.inl ⟨by rfl, ?hy9_7⟩) hHeld ?re9_7
  case hy9_7 => (intro w hSw; (try dsimp only at hSw); go_simp; try with_reducible rfl)
  try simp only [Act.put, List.setIfInBounds_toArray, List.set_cons_zero, List.set_cons_succ]
  refine wpAnyH_ready (rs := [4]) (by kernel_rfl) (by simp) ?_
  refine AllReadyH.cons (o := { dst := some 79, op := Go.Op.load 70 (Go.Operand.tmp 78), type := 70, pos := "ordered.go:219", after := #[{ on := 3, ground := Go.Ground.data }], guard := none }) rfl (fun K hK => ?_) AllReadyH.nil
  go_simp
  clear hHeld
  refine hK.out _ _ (KS _ k2.any.drew) (fun hHeld => ?_)
  clear hK K
  try simp only [Act.put, List.setIfInBounds_toArray, List.set_cons_zero, List.set_cons_succ]
  refine wpAnyH_ready (rs := [8]) (by kernel_rfl) (by simp) ?_
  refine AllReadyH.cons (o := { dst := some 83, op := Go.Op.call { callee := Go.Callee.value (Go.Operand.func 46), args := #[Go.Operand.tmp 79, Go.Operand.tmp 81, Go.Operand.tmp 82], argTypes := #[70, 3, 44] }, type := 70, pos := "ordered.go:219", after := #[{ on := 4, ground := Go.Ground.data }, { on := 6, ground := Go.Ground.data }, { on := 7, ground := Go.Ground.data }], guard := none }) rfl (fun K hK => ?_) AllReadyH.nil
  go_simp
  refine (hI _ k2.drew).mono ?_
  rintro e W3 ⟨g, c, rfl, o3, k3', hg3⟩
  have k3 : Kp [lf.kb, lf.b, lf.vb] W1 W3 := (k2.drew.any).trans (k3'.mono (by simp))
  have z3 := k3'.at (k2.drew.at hlf1 (by simp)) (by simp; exact q5)
  have f3 : W3.frozen? ⟨lf.b, 0, none⟩ = false := frozen_of z3
  have d4 : W3.cell? ⟨lf.b, 0, none⟩ = some (.slice (some ⟨lf.kb, 0, none⟩) n lf.kc) := by rw [cell_of z3]; rfl
  clear d3
  clear hHeld
  refine hK.out _ _ (KS _ k3) (fun hHeld => ?_)
  clear hK K
  try simp only [Act.put, List.setIfInBounds_toArray, List.set_cons_zero, List.set_cons_succ]
  refine wpAnyH_take (i := 9) (oi := { dst := some 84, op := Go.Op.nilCheck (Go.Operand.tmp 75), type := 0, pos := "ordered.go:219", after := #[{ on := 0, ground := Go.Ground.data }, { on := 0, ground := Go.Ground.phase }, { on := 1, ground := Go.Ground.phase }, { on := 2, ground := Go.Ground.phase }, { on := 3, ground := Go.Ground.phase }, { on := 4, ground := Go.Ground.phase }, { on := 5, ground := Go.Ground.phase }, { on := 6, ground := Go.Ground.phase }, { on := 7, ground := Go.Ground.phase }, { on := 8, ground := Go.Ground.phase }], guard := none }) (v := ?vv9_9) rfl (by kernel_rfl) (by kernel_rfl) (by kernel_rfl) (fun _ _ _ h => h) (Or.inl ⟨by rfl, ?hy9_9⟩) hHeld ?re9_9
  case hy9_9 => (intro w hSw; (try dsimp only at hSw); go_simp; try with_reducible rfl)
  try simp only [Act.put, List.setIfInBounds_toArray, List.set_cons_zero, List.set_cons_succ]
  refine wpAnyH_take (i := 10) (oi := { dst := some 85, op := Go.Op.fieldAddr 81 (Go.Operand.tmp 84) 0, type := 0, pos := "ordered.go:219", after := #[{ on := 9, ground := Go.Ground.data }, { on := 0, ground := Go.Ground.phase }, { on := 1, ground := Go.Ground.phase }, { on := 2, ground := Go.Ground.phase }, { on := 3, ground := Go.Ground.phase }, { on := 4, ground := Go.Ground.phase }, { on := 5, ground := Go.Ground.phase }, { on := 6, ground := Go.Ground.phase }, { on := 7, ground := Go.Ground.phase }, { on := 8, ground := Go.Ground.phase }], guard := none }) (v := ?vv9_10) rfl (by kernel_rfl) (by kernel_rfl) (by kernel_rfl) (fun _ _ _ h => h) (Or.inl ⟨by rfl, ?hy9_10⟩) hHeld ?re9_10
  case hy9_10 => (intro w hSw; (try dsimp only at hSw); go_simp; try with_reducible rfl)
  try simp only [Act.put, List.setIfInBounds_toArray, List.set_cons_zero, List.set_cons_succ]
  refine wpAnyH_ready (rs := [11]) (by kernel_rfl) (by simp) ?_
  refine AllReadyH.cons (o := { dst := none, op := Go.Op.store 70 (Go.Operand.tmp 85) (Go.Operand.tmp 83), type := 0, pos := "ordered.go:219", after := #[{ on := 10, ground := Go.Ground.data }, { on := 8, ground := Go.Ground.data }, { on := 8, ground := Go.Ground.chain }, { on := 0, ground := Go.Ground.phase }, { on := 1, ground := Go.Ground.phase }, { on := 2, ground := Go.Ground.phase }, { on := 3, ground := Go.Ground.phase }, { on := 4, ground := Go.Ground.phase }, { on := 5, ground := Go.Ground.phase }, { on := 6, ground := Go.Ground.phase }, { on := 7, ground := Go.Ground.phase }, { on := 8, ground := Go.Ground.phase }], guard := none }) rfl (fun K hK => ?_) AllReadyH.nil
  go_simp
  clear hHeld
  refine hK.out _ _ (KS _ (k3.setCell (by simp) _)) (fun hHeld => ?_)
  clear hK K
  try simp only [Act.put, List.setIfInBounds_toArray, List.set_cons_zero, List.set_cons_succ]
  refine wpAnyH_done (by kernel_rfl) ?_ _
  clear hHeld
  generalize hD : W3.setCell ⟨lf.b, 0, none⟩ (.slice (some ⟨g, 0, none⟩) (n + 1) c) = W4
  have k4 : Kp [lf.kb, lf.b, lf.vb] W1 W4 := by rw [← hD]; exact k3.setCell (by simp) _
  have z4 : W4.heap[lf.b]? = some (.cells #[.slice (some ⟨g, 0, none⟩) (n + 1) c, .slice (some ⟨lf.vb, 0, none⟩) n lf.vc] 81) := by rw [← hD]; exact heap_setCell_same' _ z3
  have e4 : ∀ x, x ≠ lf.b → W4.heap[x]? = W3.heap[x]? := by intro x hx; rw [← hD]; exact Below.heap_setCell _ _ _ _ (by simpa using hx)
  have k4s : W4.heap.size = W3.heap.size := by rw [← hD]; simp
  clear hD d4 f3 z3
  have hgl : g ≠ lf.b ∧ g ≠ lf.vb ∧ N ≤ g ∧ (g = lf.kb ∨ B + 2 ≤ g) := by
    obtain ⟨cu, hcu, hNg, _⟩ := ownsRow_blk o3
    have hsz := k2.size
    have e : W2.drew.heap.size = W2.heap.size := rfl
    rcases hg3 with h | h
    · subst h; exact ⟨q5.symm, q7, hNg, .inl rfl⟩
    · exact ⟨by omega, by omega, hNg, .inr (by omega)⟩
  have hval4 : W4.ownsRow N 49 1 (.slice (some ⟨lf.vb, 0, none⟩) n lf.vc) n (lf.vs.map P) := ownsRow_same hval1 (fun x hx => by
    simp [Value.ownBlock] at hx; subst hx
    rw [e4 _ q6.symm, k3'.block _ (by have := k2.size; have e : W2.drew.heap.size = W2.heap.size := rfl; omega) (by simp; exact q7.symm)]
    exact k2.block _ (by omega) (by simp))
  have hJ := insV N lf.vb lf.vc n v n (lf.vs.map P) W4.drew hval4 (ptrs_one _) (by omega) (by omega) (Nat.le_trans hN1 k4.size)
  have d5 : W4.cell? ⟨lf.b, 1, none⟩ = some (.slice (some ⟨lf.vb, 0, none⟩) n lf.vc) := by rw [cell_of z4]; rfl
  go_upto_region 10 with fail
  refine wp_region_held_drew (S := (fun w' => w'.cell? ⟨B, 2, none⟩ = some (.int .i64 n) ∧ w'.cell? ⟨B + 1, 0, none⟩ = some (.int .u8 1) ∧ w'.cell? ⟨B + 1, 1, none⟩ = some (.int .i64 k) ∧ w'.cell? ⟨B + 1, 2, none⟩ = some (.string ⟨#[]⟩))) (by kernel_rfl) (KS _ k4.drew) (fun hHeld => ?_)
  refine wpAnyH_take (i := 0) (oi := { dst := some 86, op := Go.Op.move (Go.Operand.tmp 8), type := 82, pos := "ordered.go:220", after := #[], guard := none }) (v := ?vv10_0) rfl (by kernel_rfl) (by kernel_rfl) (by kernel_rfl) (fun _ _ _ h => h) (Or.inl ⟨by rfl, ?hy10_0⟩) hHeld ?re10_0
  case hy10_0 => (intro w hSw; (try dsimp only at hSw); go_simp; try with_reducible rfl)
  try simp only [Act.put, List.setIfInBounds_toArray, List.set_cons_zero, List.set_cons_succ]
  refine wpAnyH_take (i := 1) (oi := { dst := some 87, op := Go.Op.move (Go.Operand.tmp 8), type := 82, pos := "ordered.go:220", after := #[], guard := none }) (v := ?vv10_1) rfl (by kernel_rfl) (by kernel_rfl) (by kernel_rfl) (fun _ _ _ h => h) (Or.inl ⟨by rfl, ?hy10_1⟩) hHeld ?re10_1
  case hy10_1 => (intro w hSw; (try dsimp only at hSw); go_simp; try with_reducible rfl)
  try simp only [Act.put, List.setIfInBounds_toArray, List.set_cons_zero, List.set_cons_succ]
  refine wpAnyH_take (i := 2) (oi := { dst := some 88, op := Go.Op.nilCheck (Go.Operand.tmp 87), type := 0, pos := "ordered.go:220", after := #[{ on := 1, ground := Go.Ground.data }], guard := none }) (v := ?vv10_2) rfl (by kernel_rfl) (by kernel_rfl) (by kernel_rfl) (fun _ _ _ h => h) (Or.inl ⟨by rfl, ?hy10_2⟩) hHeld ?re10_2
  case hy10_2 => (intro w hSw; (try dsimp only at hSw); go_simp; try with_reducible rfl)
  try simp only [Act.put, List.setIfInBounds_toArray, List.set_cons_zero, List.set_cons_succ]
  refine wpAnyH_take (i := 3) (oi := { dst := some 89, op := Go.Op.fieldAddr 81 (Go.Operand.tmp 88) 1, type := 0, pos := "ordered.go:220", after := #[{ on := 2, ground := Go.Ground.data }], guard := none }) (v := ?vv10_3) rfl (by kernel_rfl) (by kernel_rfl) (by kernel_rfl) (fun _ _ _ h => h) (Or.inl ⟨by rfl, ?hy10_3⟩) hHeld ?re10_3
  case hy10_3 => (intro w hSw; (try dsimp only at hSw); go_simp; try with_reducible rfl)
  try simp only [Act.put, List.setIfInBounds_toArray, List.set_cons_zero, List.set_cons_succ]
  refine wpAnyH_take (i := 5) (oi := { dst := some 91, op := Go.Op.fieldAddr 35 (Go.Operand.tmp 5) 2, type := 0, pos := "ordered.go:220", after := #[], guard := none }) (v := ?vv10_5) rfl (by kernel_rfl) (by kernel_rfl) (by kernel_rfl) (fun _ _ _ h => h) (Or.inl ⟨by rfl, ?hy10_5⟩) hHeld ?re10_5
  case hy10_5 => (intro w hSw; (try dsimp only at hSw); go_simp; try with_reducible rfl)
  try simp only [Act.put, List.setIfInBounds_toArray, List.set_cons_zero, List.set_cons_succ]
  refine wpAnyH_take (i := 6) (oi := { dst := some 92, op := Go.Op.load 3 (Go.Operand.tmp 91), type := 3, pos := "ordered.go:220", after := #[{ on := 5, ground := Go.Ground.data }], guard := none }) (v := ?vv10_6) rfl (by kernel_rfl) (by kernel_rfl) (by kernel_rfl) (fun _ _ _ h => h) (Or.inl ⟨by rfl, ?hy10_6⟩) hHeld ?re10_6
  case hy10_6 => (intro w hSw; (try dsimp only at hSw); go_simp; try with_reducible rfl)
  try simp only [Act.put, List.setIfInBounds_toArray, List.set_cons_zero, List.set_cons_succ]
  refine wpAnyH_take (i := 7) (oi := { dst := some 93, op := Go.Op.move (Go.Operand.tmp 3), type := 49, pos := "ordered.go:220", after := #[], guard := none }) (v := ?vv10_7) rfl (by kernel_rfl) (by kernel_rfl) (by kernel_rfl) (fun _ _ _ h => h) (Or.inl ⟨by rfl, ?hy10_7⟩) hHeld ?re10_7
  case hy10_7 => (intro w hSw; (try dsimp only at hSw); go_simp; try with_reducible rfl)
  try simp only [Act.put, List.setIfInBounds_toArray, List.set_cons_zero, List.set_cons_succ]
  refine wpAnyH_ready (rs := [4]) (by kernel_rfl) (by simp) ?_
  refine AllReadyH.cons (o := { dst := some 90, op := Go.Op.load 79 (Go.Operand.tmp 89), type := 79, pos := "ordered.go:220", after := #[{ on := 3, ground := Go.Ground.data }], guard := none }) rfl (fun K hK => ?_) AllReadyH.nil
  go_simp
  clear hHeld
  refine hK.out _ _ (KS _ k4.drew) (fun hHeld => ?_)
  clear hK K
  try simp only [Act.put, List.setIfInBounds_toArray, List.set_cons_zero, List.set_cons_succ]
  refine wpAnyH_ready (rs := [8]) (by kernel_rfl) (by simp) ?_
  refine AllReadyH.cons (o := { dst := some 94, op := Go.Op.call { callee := Go.Callee.value (Go.Operand.func 47), args := #[Go.Operand.tmp 90, Go.Operand.tmp 92, Go.Operand.tmp 93], argTypes := #[79, 3, 49] }, type := 79, pos := "ordered.go:220", after := #[{ on := 4, ground := Go.Ground.data }, { on := 6, ground := Go.Ground.data }, { on := 7, ground := Go.Ground.data }], guard := none }) rfl (fun K hK => ?_) AllReadyH.nil
  go_simp
  refine hJ.mono ?_
  rintro e W5 ⟨g', c', rfl, o5, k5', hg5⟩
  have k5 : Kp [lf.kb, lf.b, lf.vb] W1 W5 := k4.drew.trans (k5'.mono (by simp))
  have z5 := k5'.at z4 (by simp; exact q6)
  have f5 : W5.frozen? ⟨lf.b, 1, none⟩ = false := frozen_of z5
  have d6 : W5.cell? ⟨lf.b, 1, none⟩ = some (.slice (some ⟨lf.vb, 0, none⟩) n lf.vc) := by rw [cell_of z5]; rfl
  clear d5
  clear hHeld
  refine hK.out _ _ (KS _ k5) (fun hHeld => ?_)
  clear hK K
  try simp only [Act.put, List.setIfInBounds_toArray, List.set_cons_zero, List.set_cons_succ]
  refine wpAnyH_take (i := 9) (oi := { dst := some 95, op := Go.Op.nilCheck (Go.Operand.tmp 86), type := 0, pos := "ordered.go:220", after := #[{ on := 0, ground := Go.Ground.data }, { on := 0, ground := Go.Ground.phase }, { on := 1, ground := Go.Ground.phase }, { on := 2, ground := Go.Ground.phase }, { on := 3, ground := Go.Ground.phase }, { on := 4, ground := Go.Ground.phase }, { on := 5, ground := Go.Ground.phase }, { on := 6, ground := Go.Ground.phase }, { on := 7, ground := Go.Ground.phase }, { on := 8, ground := Go.Ground.phase }], guard := none }) (v := ?vv10_9) rfl (by kernel_rfl) (by kernel_rfl) (by kernel_rfl) (fun _ _ _ h => h) (Or.inl ⟨by rfl, ?hy10_9⟩) hHeld ?re10_9
  case hy10_9 => (intro w hSw; (try dsimp only at hSw); go_simp; try with_reducible rfl)
  try simp only [Act.put, List.setIfInBounds_toArray, List.set_cons_zero, List.set_cons_succ]
  refine wpAnyH_take (i := 10) (oi := { dst := some 96, op := Go.Op.fieldAddr 81 (Go.Operand.tmp 95) 1, type := 0, pos := "ordered.go:220", after := #[{ on := 9, ground := Go.Ground.data }, { on := 0, ground := Go.Ground.phase }, { on := 1, ground := Go.Ground.phase }, { on := 2, ground := Go.Ground.phase }, { on := 3, ground := Go.Ground.phase }, { on := 4, ground := Go.Ground.phase }, { on := 5, ground := Go.Ground.phase }, { on := 6, ground := Go.Ground.phase }, { on := 7, ground := Go.Ground.phase }, { on := 8, ground := Go.Ground.phase }], guard := none }) (v := ?vv10_10) rfl (by kernel_rfl) (by kernel_rfl) (by kernel_rfl) (fun _ _ _ h => h) (Or.inl ⟨by rfl, ?hy10_10⟩) hHeld ?re10_10
  case hy10_10 => (intro w hSw; (try dsimp only at hSw); go_simp; try with_reducible rfl)
  try simp only [Act.put, List.setIfInBounds_toArray, List.set_cons_zero, List.set_cons_succ]
  refine wpAnyH_ready (rs := [11]) (by kernel_rfl) (by simp) ?_
  refine AllReadyH.cons (o := { dst := none, op := Go.Op.store 79 (Go.Operand.tmp 96) (Go.Operand.tmp 94), type := 0, pos := "ordered.go:220", after := #[{ on := 10, ground := Go.Ground.data }, { on := 8, ground := Go.Ground.data }, { on := 8, ground := Go.Ground.chain }, { on := 0, ground := Go.Ground.phase }, { on := 1, ground := Go.Ground.phase }, { on := 2, ground := Go.Ground.phase }, { on := 3, ground := Go.Ground.phase }, { on := 4, ground := Go.Ground.phase }, { on := 5, ground := Go.Ground.phase }, { on := 6, ground := Go.Ground.phase }, { on := 7, ground := Go.Ground.phase }, { on := 8, ground := Go.Ground.phase }], guard := none }) rfl (fun K hK => ?_) AllReadyH.nil
  go_simp
  clear hHeld
  refine hK.out _ _ (KS _ (k5.setCell (by simp) _)) (fun hHeld => ?_)
  clear hK K
  try simp only [Act.put, List.setIfInBounds_toArray, List.set_cons_zero, List.set_cons_succ]
  refine wpAnyH_done (by kernel_rfl) ?_ _
  clear hHeld
  generalize hD : W5.setCell ⟨lf.b, 1, none⟩ (.slice (some ⟨g', 0, none⟩) (n + 1) c') = W6
  have k6 : Kp [lf.kb, lf.b, lf.vb] W1 W6 := by rw [← hD]; exact k5.setCell (by simp) _
  have z6 : W6.heap[lf.b]? = some (.cells #[.slice (some ⟨g, 0, none⟩) (n + 1) c, .slice (some ⟨g', 0, none⟩) (n + 1) c'] 81) := by rw [← hD]; exact heap_setCell_same' _ z5
  have e6 : ∀ x, x ≠ lf.b → W6.heap[x]? = W5.heap[x]? := by intro x hx; rw [← hD]; exact Below.heap_setCell _ _ _ _ (by simpa using hx)
  clear hD
  have FIN : Hid (Ins N mb sh k v (L1 ++ lf :: L2) w W6) := by
    have eLL := HLL.out
    have eN := HN.out
    subst eLL
    obtain ⟨cu, hcu, _⟩ := ownsRow_blk o3
    have lg := lt_of hcu
    have hW4s : W3.heap.size ≤ W4.heap.size := by rw [k4s]; exact Nat.le_refl _
    have hgl5 : g' ≠ lf.b ∧ g' ≠ lf.kb ∧ (g' = lf.vb ∨ B + 2 ≤ g') := by
      have hsz := k4.size
      have e : W4.drew.heap.size = W4.heap.size := rfl
      rcases hg5 with h | h
      · subst h; exact ⟨q6.symm, q7.symm, .inl rfl⟩
      · exact ⟨by omega, by omega, .inr (by omega)⟩
    have hl5 : LeafOk N W6 (lf.plus g c g' c' n k v) := by
      refine LeafOk.put eN.symm (by omega) hroom hNb o3 o5 z6 ?_ (e6 _ hgl5.1)
      rw [e6 _ hgl.1, k5'.block _ (by have e : W4.drew.heap.size = W4.heap.size := rfl; omega) (by simp; exact hgl.2.1)]
      exact e4 _ hgl.1
    refine fin_any (M := [lf.plus g c g' c' n k v]) (S := [lf.kb, lf.b, lf.vb]) hs hA hZ hbase hm hnear hL hK1 hm1 (k6.at hm1 (by simp; omega)) k6 ?_ ?_ (by simp) (by simp) (by simp) ?_ (by simp) hkeysfew (by simp [keysOf, Leaf.plus]) ?_
    · intro b hb
      simp at hb
      rcases hb with e | e | e <;> simp [e]
    · intro m hm
      simp at hm
      subst hm
      exact ⟨hl5, .inl rfl, by rw [hW1s]; exact hgl.2.2.2, by rw [hW1s]; exact hgl5.2.2⟩
    · exact row_same hLv1.row k6 (by intro b hb; simp [Value.ownBlock] at hb ⊢; omega) rfl
    · intro x hx
      simp [valsOf, Leaf.plus] at hx
      rcases hx with h | h | h
      · exact .inr (List.mem_of_mem_take h)
      · exact .inl h
      · exact .inr (List.mem_of_mem_drop h)
  go_wp2_with fail
  simp [bodyPost, results, Yba.results39]
  exact FIN.out
end Go.Proofs.Ybulkcnom
