/-
  Seat b4471a, Forward and Back: insert into a full leaf: it is split.
-/
import Derived.Test.YbulkcnomFinSplit
import Derived.Deep.DeepCutAuto
namespace Go.Proofs.Ybulkcnom
open Go.RowKit
attribute [local go_sem ↓] Go.wp_at_zero Go.wp_at_succ
set_option maxRecDepth 20000 in
set_option maxHeartbeats 3200000 in
theorem insert_split (N mb l i v : Nat) (sh k : Int) (L1 L2 : List Leaf) (lf : Leaf) (w : World) (hR : Rep N w mb sh (L1 ++ lf :: L2)) (h0 : 0 ≤ sh) (h1 : sh < 100000) (hs : Srt (L1 ++ lf :: L2)) (hl : l = L1.length) (hi : i < lf.ks.length) (hfull : lf.ks.length = 128) (hkeysfew : (keysOf (L1 ++ lf :: L2)).length < 300)
    (hA : ∀ x ∈ keysOf L1 ++ lf.ks.take i, x < k) (hZ : ∀ x ∈ lf.ks.drop i ++ keysOf L2, k < x) :
    Calls Yba.prog 39 #[P mb, .agg (CC mb l i sh), V k, P v] w fun e w' => e = .returned (.tuple #[]) ∧ Ins N mb sh k v (L1 ++ lf :: L2) w w' := by
  obtain ⟨lv, near, hm, hnear, hL⟩ := hR.has
  have hbase := hR.base
  obtain ⟨lb, lc, rfl⟩ : ∃ lb lc, lv = .slice (some ⟨lb, 0, none⟩) (L1 ++ lf :: L2).length lc := by
    obtain ⟨g, cap, h, _⟩ := hL.row.form (by simp; omega)
    exact ⟨g, cap, h⟩
  obtain ⟨LL, hLL⟩ : ∃ LL, LL = (L1 ++ lf :: L2).length := ⟨_, rfl⟩
  have hfew := hL.few
  have hrow := hL.row
  have hmap : ((L1 ++ lf :: L2).map fun l => P l.b)[L1.length]? = some (P lf.b) := by simp
  obtain ⟨lcur, hlb, hNlb, hlc1, hlc2, hlc3, hlc4⟩ := ownsRow_blk hrow
  have hlf := hL.leaf lf (by simp)
  obtain ⟨n, hn⟩ : ∃ n, n = lf.ks.length := ⟨_, rfl⟩
  obtain ⟨kcur, hkb, hNkb, hkc1, hkc2, hkc3, hkc4⟩ := ownsRow_blk hlf.keys
  obtain ⟨vcur, hvb, hNvb, hvc1, hvc2, hvc3, hvc4⟩ := ownsRow_blk hlf.vals
  have hlfb := hlf.blk
  have hNb := hlf.base
  have hkeys := hlf.keys
  have hvals := hlf.vals
  rw [← hn] at hlfb hkeys hvals hkc1 hvc1
  have hn1 := hlf.pos
  have hn2 := hlf.few
  rw [← hn] at hn1 hn2
  rw [← hLL] at hm hlc1 hfew hrow
  have hlcell : w.cell? ⟨lb, L1.length, none⟩ = some (P lf.b) := by
    rw [hrow.cellAt _ (by rw [hLL]; simp)]
    simp
  obtain ⟨B, hB⟩ : ∃ B, B = w.heap.size := ⟨_, rfl⟩
  have lmb := lt_of hm
  have llb := lt_of hlb
  have llf := lt_of hlfb
  have lkb := lt_of hkb
  have lvb := lt_of hvb
  rw [← hB] at lmb llb llf lkb lvb
  have q1 : mb ≠ lb := ne_kind hm hlb (by decide)
  have q2 : mb ≠ lf.b := ne_kind hm hlfb (by decide)
  have q3 : mb ≠ lf.kb := ne_kind hm hkb (by decide)
  have q4 : mb ≠ lf.vb := ne_kind hm hvb (by decide)
  have q5 : lf.b ≠ lf.kb := ne_kind hlfb hkb (by decide)
  have q6 : lf.b ≠ lf.vb := ne_kind hlfb hvb (by decide)
  have q7 : lf.kb ≠ lf.vb := ne_kind hkb hvb (by decide)
  have q8 : lb ≠ lf.b := ne_kind hlb hlfb (by decide)
  have q9 : lb ≠ lf.kb := ne_kind hlb hkb (by decide)
  have q10 : lb ≠ lf.vb := ne_kind hlb hvb (by decide)
  obtain ⟨W, hW⟩ : ∃ W, W = ((w.alloc (.cells (CC mb l i sh) 35)).alloc (.cells (VC k) 44)) := ⟨_, rfl⟩
  have hK : Kp [] w W := by rw [hW]; exact ((Kp.refl _ _).alloc _).alloc _
  have hmW : W.heap[mb]? = some (.cells (MC (.slice (some ⟨lb, 0, none⟩) LL lc) near sh) 85) := hK.at hm (by simp)
  have x0 : W.heap[B]? = some (.cells (CC mb l i sh) 35) := by rw [hW, hB]; exact ((Kp.refl [] _).alloc _).at (heap_alloc_same _ _) (by simp)
  have x1 : W.heap[B + 1]? = some (.cells (VC k) 44) := by rw [hW, hB]; exact heap_alloc_at _ _ (by simp)
  have hWs : W.heap.size = B + 2 := by rw [hW, hB]; simp
  have p3 : W.cell? ⟨mb, 3, none⟩ = some (.int .u64 sh) := by rw [cell_of hmW]; rfl
  have p1 : W.cell? ⟨mb, 1, none⟩ = some (.slice (some ⟨lb, 0, none⟩) LL lc) := by rw [cell_of hmW]; rfl
  have pf : W.frozen? ⟨mb, 3, none⟩ = false := frozen_of hmW
  have hwr : IntKind.u64.wrap (sh + 1) = sh + 1 := by rw [IntKind.wrap_u64]; omega
  obtain ⟨W1, hW1⟩ : ∃ W1, W1 = W.setCell ⟨mb, 3, none⟩ (.int .u64 (sh + 1)) := ⟨_, rfl⟩
  have hW1s : W1.heap.size = B + 2 := by rw [hW1]; simpa using hWs
  have hm1 : W1.heap[mb]? = some (.cells (MC (.slice (some ⟨lb, 0, none⟩) LL lc) near (sh + 1)) 85) := by rw [hW1]; exact heap_setCell_same' _ hmW
  have hK1 : Kp [mb] w W1 := by rw [hW1]; exact hK.any.setCell (by simp) _
  have y0 : W1.heap[B]? = some (.cells (CC mb l i sh) 35) := by rw [hW1, Below.heap_setCell _ _ _ _ (by simp; omega)]; exact x0
  have y1 : W1.heap[B + 1]? = some (.cells (VC k) 44) := by rw [hW1, Below.heap_setCell _ _ _ _ (by simp; omega)]; exact x1
  have hlf1 := hK1.at hlfb (by simp; exact q2.symm)
  have hlb1 := hK1.at hlb (by simp; exact q1.symm)
  have hlc1' : W1.cell? ⟨lb, L1.length, none⟩ = some (P lf.b) := by rw [cell_of hlb1]; rw [cell_of hlb] at hlcell; exact hlcell
  have hkey1 : W1.ownsRow N 44 3 (.slice (some ⟨lf.kb, 0, none⟩) n lf.kc) n (flat lf.ks) := ownsRow_same hkeys (fun g hg => by simp [Value.ownBlock] at hg; subst hg; exact hK1.block _ (by omega) (by simp; exact q3.symm))
  have hval1 : W1.ownsRow N 49 1 (.slice (some ⟨lf.vb, 0, none⟩) n lf.vc) n (lf.vs.map P) := ownsRow_same hvals (fun g hg => by simp [Value.ownBlock] at hg; subst hg; exact hK1.block _ (by omega) (by simp; exact q4.symm))
  have hLv1 : Lvs N W1 (.slice (some ⟨lb, 0, none⟩) LL lc) (L1 ++ lf :: L2) := by
    rw [hLL]
    refine hL.kp hK1 (fun x hx => ?_)
    simp at hx
    subst hx
    exact ⟨_, _, hm, by decide, by decide, by decide, by decide⟩
  have hN1 : N ≤ W1.heap.size := by omega
  rw [← hn] at hi hfull
  have hLl : L1.length < LL := by rw [hLL]; simp
  subst hl
  have a1 : W1.cell? ⟨mb, 1, none⟩ = some (.slice (some ⟨lb, 0, none⟩) LL lc) := by rw [cell_of hm1]; rfl
  have a3 : W1.cell? ⟨lf.b, 0, none⟩ = some (.slice (some ⟨lf.kb, 0, none⟩) n lf.kc) := by rw [cell_of hlf1]; rfl
  have c1 : W1.cell? ⟨B, 1, none⟩ = some (.int .i64 L1.length) := by rw [cell_of y0]; rfl
  have c2 : W1.cell? ⟨B, 2, none⟩ = some (.int .i64 i) := by rw [cell_of y0]; rfl
  have g1 : ((LL : Int) == 0) = false := by simp; omega
  have g2 : ((L1.length : Int) == (LL : Int)) = false := by simp; omega
  have g3 : (L1.length : Int) < (LL : Int) := by omega
  have g4 : ¬ (n : Int) < 128 := by omega
  have g2' : decide ((L1.length : Int) = (LL : Int)) = false := by simp; omega
  have g4' : decide ((n : Int) < 128) = false := by simp; omega
  have g5 : ((i : Int) == (n : Int)) = false := by simp; omega
  have g5' : decide ((i : Int) = (n : Int)) = false := by simp; omega
  have g6 : (n : Int) / 2 = 64 := by omega
  have g7 : Int.tdiv (n : Int) 2 = 64 := by rw [Int.tdiv_eq_ediv_of_nonneg (by omega)]; omega
  have g8 : (64 : Int) ≤ (n : Int) := by omega
  have kc64 : ¬ (lf.kc = 64) := by omega
  have vc64 : ¬ (lf.vc = 64) := by omega
  have HN : Hid (n = lf.ks.length) := hn
  have HLL : Hid (LL = (L1 ++ lf :: L2).length) := hLL
  have HF : Hid (n = 128) := hfull
  have HBw : w.heap.size ≤ B := by omega
  clear hn hLL hfull
  go_enter Yba.func39, Yba.ntmps39
  go_upto_region 1 with fail
  rw [← hW, ← hB]
  clear hW hB
  go_upto_if 18 with fail
  rw [← hW1]
  clear hW1 p1 p3 pf
  go_upto_region 4 with fail
  go_quiet (fail)
  go_upto_region 7 with fail
  go_quiet (fail)
  go_upto_region 11 with fail
  go_quiet (fail)
  go_upto_region 14 with fail
  generalize hD : W1.drewN _ = X
  have kX : Kp [] W1 X := by rw [← hD]; exact (Kp.refl _ _).drewN _
  have hXs : X.heap.size = B + 2 := by rw [← hD]; exact hW1s
  clear hD
  have hlfX := kX.at hlf1 (by simp)
  have hkeyX : X.ownsRow N 44 3 (.slice (some ⟨lf.kb, 0, none⟩) n lf.kc) n (flat lf.ks) := ownsRow_same hkey1 (fun x hx => by simp [Value.ownBlock] at hx; subst hx; exact kX.block _ (by omega) (by simp))
  have hvalX : X.ownsRow N 49 1 (.slice (some ⟨lf.vb, 0, none⟩) n lf.vc) n (lf.vs.map P) := ownsRow_same hval1 (fun x hx => by simp [Value.ownBlock] at hx; subst hx; exact kX.block _ (by omega) (by simp))
  have KB : ∀ w', Kp [] X w' → w'.cell? ⟨lf.b, 0, none⟩ = some (.slice (some ⟨lf.kb, 0, none⟩) n lf.kc) ∧ w'.cell? ⟨lf.b, 1, none⟩ = some (.slice (some ⟨lf.vb, 0, none⟩) n lf.vc) := by
    intro w' h
    have e0 := h.at hlfX (by simp)
    exact ⟨by rw [cell_of e0]; rfl, by rw [cell_of e0]; rfl⟩
  have lenK : ((flat lf.ks).drop (64 * 3)).length = 64 * 3 := by
    rw [List.length_drop, flat_length, ← HN.out, HF.out]
  have lenV : ((lf.vs.map P).drop 64).length = 64 * 1 := by
    have := hvalX.1
    rw [List.length_drop, this, HF.out]
  have newsK : ∀ Y, Kp [] X Y → ∀ j u, ((flat lf.ks).drop (64 * 3))[j]? = some u → Y.cell? ((⟨lf.kb, 192, none⟩ : Addr).add j) = some u := by
    intro Y h j u hu
    rw [show (⟨lf.kb, 192, none⟩ : Addr).add j = ⟨lf.kb, 192 + j, none⟩ by (unfold Addr.add; split <;> simp_all)]
    rw [List.getElem?_drop] at hu
    have hlt := (List.getElem?_eq_some_iff.1 hu).1
    rw [flat_length, ← HN.out] at hlt
    refine h.cell ?_ (by simp)
    rw [hkeyX.cellAt _ (by omega)]
    exact hu
  have newsV : ∀ Y, Kp [] X Y → ∀ j u, ((lf.vs.map P).drop 64)[j]? = some u → Y.cell? ((⟨lf.vb, 64, none⟩ : Addr).add j) = some u := by
    intro Y h j u hu
    rw [show (⟨lf.vb, 64, none⟩ : Addr).add j = ⟨lf.vb, 64 + j, none⟩ by (unfold Addr.add; split <;> simp_all)]
    rw [List.getElem?_drop] at hu
    have hlt := (List.getElem?_eq_some_iff.1 hu).1
    have hv := hvalX.1
    refine h.cell ?_ (by simp)
    rw [hvalX.cellAt _ (by omega)]
    exact hu
  have g9 : n - 64 = 64 := by have := HF.out; omega
  obtain ⟨iK, hiK, hzK0, hzK1, hzK2⟩ := info_parts info44
  obtain ⟨iV, hiV, hzV0, hzV1, hzV2⟩ := info_parts info49
  have hNX : N ≤ X.heap.size := by omega
  clear a1 a3 c1 c2
  go_cut [10] (fun s10 wx => ∃ rb gk ck gv cv : Nat, s10 = P rb ∧ Kp [] X wx ∧ wx.heap[rb]? = some (.cells #[.slice (some ⟨gk, 0, none⟩) 64 ck, .slice (some ⟨gv, 0, none⟩) 64 cv] 81) ∧ wx.ownsRow N 44 3 (.slice (some ⟨gk, 0, none⟩) 64 ck) 64 ((flat lf.ks).drop (64 * 3)) ∧ wx.ownsRow N 49 1 (.slice (some ⟨gv, 0, none⟩) 64 cv) 64 ((lf.vs.map P).drop 64) ∧ B + 2 ≤ rb ∧ B + 2 ≤ gk ∧ B + 2 ≤ gv)
  case first => as_aux_lemma =>
    refine wp_region_held_drew (S := (fun w' => w'.cell? ⟨lf.b, 0, none⟩ = some (.slice (some ⟨lf.kb, 0, none⟩) n lf.kc) ∧ w'.cell? ⟨lf.b, 1, none⟩ = some (.slice (some ⟨lf.vb, 0, none⟩) n lf.vc))) (by kernel_rfl) (KB _ (Kp.refl _ _).drew) (fun hHeld => ?_)
    revert hHeld
    generalize hE0 : X.drew = Y0
    intro hHeld
    have k0 : Kp [] X Y0 := by rw [← hE0]; exact (Kp.refl _ _).drew
    clear hE0
    refine wpAnyH_take (i := 1) (oi := { dst := some 127, op := Go.Op.move (Go.Operand.tmp 8), type := 82, pos := "ordered.go:233", after := #[], guard := none }) (v := ?vv14_1_1) rfl (by kernel_rfl) (by kernel_rfl) (by kernel_rfl) (fun _ _ _ h => h) (Or.inl ⟨by rfl, ?hy14_1_1⟩) hHeld ?re14_1_1
    case hy14_1_1 => (intro w hSw; (try dsimp only at hSw); go_simp; try with_reducible rfl)
    try simp only [Act.put, List.setIfInBounds_toArray, List.set_cons_zero, List.set_cons_succ]
    refine wpAnyH_take (i := 2) (oi := { dst := some 128, op := Go.Op.nilCheck (Go.Operand.tmp 127), type := 0, pos := "ordered.go:233", after := #[{ on := 1, ground := Go.Ground.data }], guard := none }) (v := ?vv14_2_2) rfl (by kernel_rfl) (by kernel_rfl) (by kernel_rfl) (fun _ _ _ h => h) (Or.inl ⟨by rfl, ?hy14_2_2⟩) hHeld ?re14_2_2
    case hy14_2_2 => (intro w hSw; (try dsimp only at hSw); go_simp; try with_reducible rfl)
    try simp only [Act.put, List.setIfInBounds_toArray, List.set_cons_zero, List.set_cons_succ]
    refine wpAnyH_take (i := 3) (oi := { dst := some 129, op := Go.Op.fieldAddr 81 (Go.Operand.tmp 128) 0, type := 0, pos := "ordered.go:233", after := #[{ on := 2, ground := Go.Ground.data }], guard := none }) (v := ?vv14_3_3) rfl (by kernel_rfl) (by kernel_rfl) (by kernel_rfl) (fun _ _ _ h => h) (Or.inl ⟨by rfl, ?hy14_3_3⟩) hHeld ?re14_3_3
    case hy14_3_3 => (intro w hSw; (try dsimp only at hSw); go_simp; try with_reducible rfl)
    try simp only [Act.put, List.setIfInBounds_toArray, List.set_cons_zero, List.set_cons_succ]
    refine wpAnyH_take (i := 4) (oi := { dst := some 130, op := Go.Op.load 70 (Go.Operand.tmp 129), type := 70, pos := "ordered.go:233", after := #[{ on := 3, ground := Go.Ground.data }], guard := none }) (v := ?vv14_4_4) rfl (by kernel_rfl) (by kernel_rfl) (by kernel_rfl) (fun _ _ _ h => h) (Or.inl ⟨by rfl, ?hy14_4_4⟩) hHeld ?re14_4_4
    case hy14_4_4 => (intro w hSw; (try dsimp only at hSw); go_simp; try with_reducible rfl)
    try simp only [Act.put, List.setIfInBounds_toArray, List.set_cons_zero, List.set_cons_succ]
    refine wpAnyH_take (i := 5) (oi := { dst := some 131, op := Go.Op.move (Go.Operand.tmp 9), type := 3, pos := "ordered.go:233", after := #[], guard := none }) (v := ?vv14_5_5) rfl (by kernel_rfl) (by kernel_rfl) (by kernel_rfl) (fun _ _ _ h => h) (Or.inl ⟨by rfl, ?hy14_5_5⟩) hHeld ?re14_5_5
    case hy14_5_5 => (intro w hSw; (try dsimp only at hSw); go_simp; try with_reducible rfl)
    try simp only [Act.put, List.setIfInBounds_toArray, List.set_cons_zero, List.set_cons_succ]
    refine wpAnyH_take (i := 6) (oi := { dst := some 132, op := Go.Op.slice 70 (Go.Operand.tmp 130) (some (Go.Operand.tmp 131)) none none, type := 70, pos := "ordered.go:233", after := #[{ on := 4, ground := Go.Ground.data }, { on := 5, ground := Go.Ground.data }], guard := none }) (v := ?vv14_6_6) rfl (by kernel_rfl) (by kernel_rfl) (by kernel_rfl) (fun _ _ _ h => h) (Or.inl ⟨by rfl, ?hy14_6_6⟩) hHeld ?re14_6_6
    case hy14_6_6 => (intro w hSw; (try dsimp only at hSw); go_simp; try with_reducible rfl)
    try simp only [Act.put, List.setIfInBounds_toArray, List.set_cons_zero, List.set_cons_succ]
    refine wpAnyH_take (i := 9) (oi := { dst := some 135, op := Go.Op.move (Go.Operand.tmp 8), type := 82, pos := "ordered.go:233", after := #[], guard := none }) (v := ?vv14_9_7) rfl (by kernel_rfl) (by kernel_rfl) (by kernel_rfl) (fun _ _ _ h => h) (Or.inl ⟨by rfl, ?hy14_9_7⟩) hHeld ?re14_9_7
    case hy14_9_7 => (intro w hSw; (try dsimp only at hSw); go_simp; try with_reducible rfl)
    try simp only [Act.put, List.setIfInBounds_toArray, List.set_cons_zero, List.set_cons_succ]
    refine wpAnyH_take (i := 10) (oi := { dst := some 136, op := Go.Op.nilCheck (Go.Operand.tmp 135), type := 0, pos := "ordered.go:233", after := #[{ on := 9, ground := Go.Ground.data }], guard := none }) (v := ?vv14_10_8) rfl (by kernel_rfl) (by kernel_rfl) (by kernel_rfl) (fun _ _ _ h => h) (Or.inl ⟨by rfl, ?hy14_10_8⟩) hHeld ?re14_10_8
    case hy14_10_8 => (intro w hSw; (try dsimp only at hSw); go_simp; try with_reducible rfl)
    try simp only [Act.put, List.setIfInBounds_toArray, List.set_cons_zero, List.set_cons_succ]
    refine wpAnyH_take (i := 11) (oi := { dst := some 137, op := Go.Op.fieldAddr 81 (Go.Operand.tmp 136) 1, type := 0, pos := "ordered.go:233", after := #[{ on := 10, ground := Go.Ground.data }], guard := none }) (v := ?vv14_11_9) rfl (by kernel_rfl) (by kernel_rfl) (by kernel_rfl) (fun _ _ _ h => h) (Or.inl ⟨by rfl, ?hy14_11_9⟩) hHeld ?re14_11_9
    case hy14_11_9 => (intro w hSw; (try dsimp only at hSw); go_simp; try with_reducible rfl)
    try simp only [Act.put, List.setIfInBounds_toArray, List.set_cons_zero, List.set_cons_succ]
    refine wpAnyH_take (i := 12) (oi := { dst := some 138, op := Go.Op.load 79 (Go.Operand.tmp 137), type := 79, pos := "ordered.go:233", after := #[{ on := 11, ground := Go.Ground.data }], guard := none }) (v := ?vv14_12_10) rfl (by kernel_rfl) (by kernel_rfl) (by kernel_rfl) (fun _ _ _ h => h) (Or.inl ⟨by rfl, ?hy14_12_10⟩) hHeld ?re14_12_10
    case hy14_12_10 => (intro w hSw; (try dsimp only at hSw); go_simp; try with_reducible rfl)
    try simp only [Act.put, List.setIfInBounds_toArray, List.set_cons_zero, List.set_cons_succ]
    refine wpAnyH_take (i := 13) (oi := { dst := some 139, op := Go.Op.move (Go.Operand.tmp 9), type := 3, pos := "ordered.go:233", after := #[], guard := none }) (v := ?vv14_13_11) rfl (by kernel_rfl) (by kernel_rfl) (by kernel_rfl) (fun _ _ _ h => h) (Or.inl ⟨by rfl, ?hy14_13_11⟩) hHeld ?re14_13_11
    case hy14_13_11 => (intro w hSw; (try dsimp only at hSw); go_simp; try with_reducible rfl)
    try simp only [Act.put, List.setIfInBounds_toArray, List.set_cons_zero, List.set_cons_succ]
    refine wpAnyH_take (i := 14) (oi := { dst := some 140, op := Go.Op.slice 79 (Go.Operand.tmp 138) (some (Go.Operand.tmp 139)) none none, type := 79, pos := "ordered.go:233", after := #[{ on := 12, ground := Go.Ground.data }, { on := 13, ground := Go.Ground.data }], guard := none }) (v := ?vv14_14_12) rfl (by kernel_rfl) (by kernel_rfl) (by kernel_rfl) (fun _ _ _ h => h) (Or.inl ⟨by rfl, ?hy14_14_12⟩) hHeld ?re14_14_12
    case hy14_14_12 => (intro w hSw; (try dsimp only at hSw); go_simp; try with_reducible rfl)
    try simp only [Act.put, List.setIfInBounds_toArray, List.set_cons_zero, List.set_cons_succ]
    refine wpAnyH_ready (rs := [0, 8]) (by kernel_rfl) (by simp) ?_
    refine AllReadyH.cons (o := { dst := some 126, op := Go.Op.makeSlice 70 (Go.Operand.const (Go.Value.int Go.IntKind.i64 0)) (Go.Operand.const (Go.Value.int Go.IntKind.i64 128)), type := 70, pos := "ordered.go:233", after := #[], guard := none }) rfl (fun K hK => ?_) ?_
    · skip
      obtain ⟨mK, hmK⟩ : ∃ m, m = Y0.heap.size := ⟨_, rfl⟩
      refine step_make_own rfl (.const (.int .i64 0)) (.const (.int .i64 128)) 70 rfl N 44 iK (.agg #[.int .u8 0, .int .i64 0, .string ⟨#[]⟩]) 3 Yba.underlying70 hiK hzK0 hzK1 .i64 .i64 128 rfl rfl (by rw [hzK2]; decide) (by decide) (Nat.le_trans hNX k0.size) mK hmK.symm ?_
      intro Y1 oK j1
      have geK : B + 2 ≤ mK := by have := k0.size; omega
      clear hmK
      have k1 : Kp [] X Y1 := k0.trans j1
      clear hHeld
      refine hK.out _ _ (KB _ k1) (fun hHeld => ?_)
      clear hK K
      try simp only [Act.put, List.setIfInBounds_toArray, List.set_cons_zero, List.set_cons_succ]
      refine wpAnyH_ready (rs := [7, 8]) (by kernel_rfl) (by simp) ?_
      refine AllReadyH.cons (o := { dst := some 133, op := Go.Op.call { callee := Go.Callee.builtin Go.Builtin.append, args := #[Go.Operand.tmp 126, Go.Operand.tmp 132], argTypes := #[70, 70] }, type := 70, pos := "ordered.go:233", after := #[{ on := 0, ground := Go.Ground.data }, { on := 6, ground := Go.Ground.data }], guard := none }) rfl (fun K hK => ?_) ?_
      · skip
        obtain ⟨HK, hHK⟩ : ∃ m, m = Y1.heap.size := ⟨_, rfl⟩
        refine step_append_lies Y1 rfl (.tmp 126) (.tmp 132) 70 rfl N 44 iK (.agg #[.int .u8 0, .int .i64 0, .string ⟨#[]⟩]) 3 32 Yba.underlying70 hiK hzK0 hzK1 hzK2 rfl (by decide) (.slice (some ⟨mK, 0, none⟩) 0 128) 0 [] rfl oK ⟨lf.kb, 192, none⟩ 64 _ ((flat lf.ks).drop (64 * 3)) rfl lenK (newsK _ k1) (fun u hu => flat_one _ u (List.mem_of_mem_drop hu)) (by decide) (by unfold maxLen; omega) (by omega) (Nat.le_trans hNX k1.size) HK hHK.symm ?_
        intro gK cK Y2 oKz growK hatK ltK
        have j2 : Kp [mK] Y1 Y2 := Kp.grown growK
        have k2 : Kp [] X Y2 := k1.new j2 (by simp; omega)
        have ggK : B + 2 ≤ gK := by
          have := k1.size
          rcases hatK with h | h
          · have : mK = gK := by simpa [Value.ownBlock] using h
            omega
          · omega
        clear oK growK hatK ltK hHK
        have oK := oKz
        clear oKz
        clear hHeld
        refine hK.out _ _ (KB _ k2) (fun hHeld => ?_)
        clear hK K
        try simp only [Act.put, List.setIfInBounds_toArray, List.set_cons_zero, List.set_cons_succ]
        refine wpAnyH_ready (rs := [8]) (by kernel_rfl) (by simp) ?_
        refine AllReadyH.cons (o := { dst := some 134, op := Go.Op.makeSlice 79 (Go.Operand.const (Go.Value.int Go.IntKind.i64 0)) (Go.Operand.const (Go.Value.int Go.IntKind.i64 128)), type := 79, pos := "ordered.go:233", after := #[], guard := none }) rfl (fun K hK => ?_) AllReadyH.nil
        obtain ⟨mV, hmV⟩ : ∃ m, m = Y2.heap.size := ⟨_, rfl⟩
        refine step_make_own rfl (.const (.int .i64 0)) (.const (.int .i64 128)) 79 rfl N 49 iV (.pointer none) 1 Yba.underlying79 hiV hzV0 hzV1 .i64 .i64 128 rfl rfl (by rw [hzV2]; decide) (by decide) (Nat.le_trans hNX k2.size) mV hmV.symm ?_
        intro Y3 oV j3
        have geV : B + 2 ≤ mV := by have := k2.size; omega
        clear hmV
        have k3 : Kp [] X Y3 := k2.trans j3
        replace oK := ownsRow_same oK (fun x hx => j3.block x (oK.lt x hx).2 (by simp))
        clear hHeld
        refine hK.out _ _ (KB _ k3) (fun hHeld => ?_)
        clear hK K
        try simp only [Act.put, List.setIfInBounds_toArray, List.set_cons_zero, List.set_cons_succ]
        refine wpAnyH_ready (rs := [15]) (by kernel_rfl) (by simp) ?_
        refine AllReadyH.cons (o := { dst := some 141, op := Go.Op.call { callee := Go.Callee.builtin Go.Builtin.append, args := #[Go.Operand.tmp 134, Go.Operand.tmp 140], argTypes := #[79, 79] }, type := 79, pos := "ordered.go:233", after := #[{ on := 8, ground := Go.Ground.data }, { on := 14, ground := Go.Ground.data }, { on := 7, ground := Go.Ground.chain }], guard := none }) rfl (fun K hK => ?_) AllReadyH.nil
        obtain ⟨HV, hHV⟩ : ∃ m, m = Y3.heap.size := ⟨_, rfl⟩
        refine step_append_lies Y3 rfl (.tmp 134) (.tmp 140) 79 rfl N 49 iV (.pointer none) 1 8 Yba.underlying79 hiV hzV0 hzV1 hzV2 rfl (by decide) (.slice (some ⟨mV, 0, none⟩) 0 128) 0 [] rfl oV ⟨lf.vb, 64, none⟩ 64 _ ((lf.vs.map P).drop 64) rfl lenV (newsV _ k3) (fun u hu => ptrs_one _ u (List.mem_of_mem_drop hu)) (by decide) (by unfold maxLen; omega) (by omega) (Nat.le_trans hNX k3.size) HV hHV.symm ?_
        intro gV cV Y4 oVz growV hatV ltV
        have j4 : Kp [mV] Y3 Y4 := Kp.grown growV
        have k4 : Kp [] X Y4 := k3.new j4 (by simp; omega)
        have ggV : B + 2 ≤ gV := by
          have := k3.size
          rcases hatV with h | h
          · have : mV = gV := by simpa [Value.ownBlock] using h
            omega
          · omega
        have neK4 : gK ≠ mV := by
          obtain ⟨_, e1, _⟩ := ownsRow_blk oK
          obtain ⟨_, e2, _⟩ := ownsRow_blk oV
          exact ne_kind e1 e2 (by decide)
        replace oK := ownsRow_same oK (fun x hx => j4.block x (oK.lt x hx).2 (by simp [Value.ownBlock] at hx; subst hx; simp; exact neK4))
        clear oV growV hatV ltV hHV
        have oV := oVz
        clear oVz
        clear hHeld
        refine hK.out _ _ (KB _ k4) (fun hHeld => ?_)
        clear hK K
        try simp only [Act.put, List.setIfInBounds_toArray, List.set_cons_zero, List.set_cons_succ]
        refine wpAnyH_take (i := 16) (oi := { dst := some 142, op := Go.Op.build 81 #[(0, Go.Operand.tmp 133), (1, Go.Operand.tmp 141)], type := 81, pos := "ordered.go:233", after := #[{ on := 7, ground := Go.Ground.data }, { on := 15, ground := Go.Ground.data }], guard := none }) (v := ?vv14_16_13) rfl (by kernel_rfl) (by kernel_rfl) (by kernel_rfl) (fun _ _ _ h => h) (Or.inl ⟨by rfl, ?hy14_16_13⟩) hHeld ?re14_16_13
        case hy14_16_13 => (intro w hSw; (try dsimp only at hSw); go_simp; try with_reducible rfl)
        try simp only [Act.put, List.setIfInBounds_toArray, List.set_cons_zero, List.set_cons_succ]
        refine wpAnyH_ready (rs := [17]) (by kernel_rfl) (by simp) ?_
        refine AllReadyH.cons (o := { dst := some 143, op := Go.Op.box 81 (Go.Operand.tmp 142), type := 82, pos := "ordered.go:233", after := #[{ on := 16, ground := Go.Ground.data }], guard := none }) rfl (fun K hK => ?_) AllReadyH.nil
        go_simp
        clear hHeld
        refine hK.out _ _ (KB _ (k4.alloc _)) (fun hHeld => ?_)
        clear hK K
        try simp only [Act.put, List.setIfInBounds_toArray, List.set_cons_zero, List.set_cons_succ]
        refine wpAnyH_take (i := 18) (oi := { dst := some 10, op := Go.Op.assign (Go.Operand.tmp 143), type := 82, pos := "ordered.go:233", after := #[{ on := 17, ground := Go.Ground.data }, { on := 15, ground := Go.Ground.chain }, { on := 0, ground := Go.Ground.phase }, { on := 1, ground := Go.Ground.phase }, { on := 2, ground := Go.Ground.phase }, { on := 3, ground := Go.Ground.phase }, { on := 4, ground := Go.Ground.phase }, { on := 5, ground := Go.Ground.phase }, { on := 6, ground := Go.Ground.phase }, { on := 7, ground := Go.Ground.phase }, { on := 8, ground := Go.Ground.phase }, { on := 9, ground := Go.Ground.phase }, { on := 10, ground := Go.Ground.phase }, { on := 11, ground := Go.Ground.phase }, { on := 12, ground := Go.Ground.phase }, { on := 13, ground := Go.Ground.phase }, { on := 14, ground := Go.Ground.phase }, { on := 15, ground := Go.Ground.phase }, { on := 16, ground := Go.Ground.phase }, { on := 17, ground := Go.Ground.phase }], guard := none }) (v := ?vv14_18_14) rfl (by kernel_rfl) (by kernel_rfl) (by kernel_rfl) (fun _ _ _ h => h) (Or.inl ⟨by rfl, ?hy14_18_14⟩) hHeld ?re14_18_14
        case hy14_18_14 => (intro w hSw; (try dsimp only at hSw); go_simp; try with_reducible rfl)
        try simp only [Act.put, List.setIfInBounds_toArray, List.set_cons_zero, List.set_cons_succ]
        refine wpAnyH_done (by kernel_rfl) ?_ _
        clear hHeld
        go_wp2_with fail
        go_meet
        case rel =>
          exact ⟨Y4.heap.size, gK, cK, gV, cV, rfl, k4.alloc _, heap_alloc_same _ _, oK.alloc _, oV.alloc _, by have := k4.size; omega, ggK, ggV⟩
      refine AllReadyH.cons (o := { dst := some 134, op := Go.Op.makeSlice 79 (Go.Operand.const (Go.Value.int Go.IntKind.i64 0)) (Go.Operand.const (Go.Value.int Go.IntKind.i64 128)), type := 79, pos := "ordered.go:233", after := #[], guard := none }) rfl (fun K hK => ?_) AllReadyH.nil
      · skip
        obtain ⟨mV, hmV⟩ : ∃ m, m = Y1.heap.size := ⟨_, rfl⟩
        refine step_make_own rfl (.const (.int .i64 0)) (.const (.int .i64 128)) 79 rfl N 49 iV (.pointer none) 1 Yba.underlying79 hiV hzV0 hzV1 .i64 .i64 128 rfl rfl (by rw [hzV2]; decide) (by decide) (Nat.le_trans hNX k1.size) mV hmV.symm ?_
        intro Y2 oV j2
        have geV : B + 2 ≤ mV := by have := k1.size; omega
        clear hmV
        have k2 : Kp [] X Y2 := k1.trans j2
        replace oK := ownsRow_same oK (fun x hx => j2.block x (oK.lt x hx).2 (by simp))
        clear hHeld
        refine hK.out _ _ (KB _ k2) (fun hHeld => ?_)
        clear hK K
        try simp only [Act.put, List.setIfInBounds_toArray, List.set_cons_zero, List.set_cons_succ]
        refine wpAnyH_ready (rs := [7]) (by kernel_rfl) (by simp) ?_
        refine AllReadyH.cons (o := { dst := some 133, op := Go.Op.call { callee := Go.Callee.builtin Go.Builtin.append, args := #[Go.Operand.tmp 126, Go.Operand.tmp 132], argTypes := #[70, 70] }, type := 70, pos := "ordered.go:233", after := #[{ on := 0, ground := Go.Ground.data }, { on := 6, ground := Go.Ground.data }], guard := none }) rfl (fun K hK => ?_) AllReadyH.nil
        obtain ⟨HK, hHK⟩ : ∃ m, m = Y2.heap.size := ⟨_, rfl⟩
        refine step_append_lies Y2 rfl (.tmp 126) (.tmp 132) 70 rfl N 44 iK (.agg #[.int .u8 0, .int .i64 0, .string ⟨#[]⟩]) 3 32 Yba.underlying70 hiK hzK0 hzK1 hzK2 rfl (by decide) (.slice (some ⟨mK, 0, none⟩) 0 128) 0 [] rfl oK ⟨lf.kb, 192, none⟩ 64 _ ((flat lf.ks).drop (64 * 3)) rfl lenK (newsK _ k2) (fun u hu => flat_one _ u (List.mem_of_mem_drop hu)) (by decide) (by unfold maxLen; omega) (by omega) (Nat.le_trans hNX k2.size) HK hHK.symm ?_
        intro gK cK Y3 oKz growK hatK ltK
        have j3 : Kp [mK] Y2 Y3 := Kp.grown growK
        have k3 : Kp [] X Y3 := k2.new j3 (by simp; omega)
        have ggK : B + 2 ≤ gK := by
          have := k2.size
          rcases hatK with h | h
          · have : mK = gK := by simpa [Value.ownBlock] using h
            omega
          · omega
        have neV3 : mV ≠ mK := by
          obtain ⟨_, e1, _⟩ := ownsRow_blk oV
          obtain ⟨_, e2, _⟩ := ownsRow_blk oK
          exact ne_kind e1 e2 (by decide)
        replace oV := ownsRow_same oV (fun x hx => j3.block x (oV.lt x hx).2 (by simp [Value.ownBlock] at hx; subst hx; simp; exact neV3))
        clear oK growK hatK ltK hHK
        have oK := oKz
        clear oKz
        clear hHeld
        refine hK.out _ _ (KB _ k3) (fun hHeld => ?_)
        clear hK K
        try simp only [Act.put, List.setIfInBounds_toArray, List.set_cons_zero, List.set_cons_succ]
        refine wpAnyH_ready (rs := [15]) (by kernel_rfl) (by simp) ?_
        refine AllReadyH.cons (o := { dst := some 141, op := Go.Op.call { callee := Go.Callee.builtin Go.Builtin.append, args := #[Go.Operand.tmp 134, Go.Operand.tmp 140], argTypes := #[79, 79] }, type := 79, pos := "ordered.go:233", after := #[{ on := 8, ground := Go.Ground.data }, { on := 14, ground := Go.Ground.data }, { on := 7, ground := Go.Ground.chain }], guard := none }) rfl (fun K hK => ?_) AllReadyH.nil
        obtain ⟨HV, hHV⟩ : ∃ m, m = Y3.heap.size := ⟨_, rfl⟩
        refine step_append_lies Y3 rfl (.tmp 134) (.tmp 140) 79 rfl N 49 iV (.pointer none) 1 8 Yba.underlying79 hiV hzV0 hzV1 hzV2 rfl (by decide) (.slice (some ⟨mV, 0, none⟩) 0 128) 0 [] rfl oV ⟨lf.vb, 64, none⟩ 64 _ ((lf.vs.map P).drop 64) rfl lenV (newsV _ k3) (fun u hu => ptrs_one _ u (List.mem_of_mem_drop hu)) (by decide) (by unfold maxLen; omega) (by omega) (Nat.le_trans hNX k3.size) HV hHV.symm ?_
        intro gV cV Y4 oVz growV hatV ltV
        have j4 : Kp [mV] Y3 Y4 := Kp.grown growV
        have k4 : Kp [] X Y4 := k3.new j4 (by simp; omega)
        have ggV : B + 2 ≤ gV := by
          have := k3.size
          rcases hatV with h | h
          · have : mV = gV := by simpa [Value.ownBlock] using h
            omega
          · omega
        have neK4 : gK ≠ mV := by
          obtain ⟨_, e1, _⟩ := ownsRow_blk oK
          obtain ⟨_, e2, _⟩ := ownsRow_blk oV
          exact ne_kind e1 e2 (by decide)
        replace oK := ownsRow_same oK (fun x hx => j4.block x (oK.lt x hx).2 (by simp [Value.ownBlock] at hx; subst hx; simp; exact neK4))
        clear oV growV hatV ltV hHV
        have oV := oVz
        clear oVz
        clear hHeld
        refine hK.out _ _ (KB _ k4) (fun hHeld => ?_)
        clear hK K
        try simp only [Act.put, List.setIfInBounds_toArray, List.set_cons_zero, List.set_cons_succ]
        refine wpAnyH_take (i := 16) (oi := { dst := some 142, op := Go.Op.build 81 #[(0, Go.Operand.tmp 133), (1, Go.Operand.tmp 141)], type := 81, pos := "ordered.go:233", after := #[{ on := 7, ground := Go.Ground.data }, { on := 15, ground := Go.Ground.data }], guard := none }) (v := ?vv14_16_15) rfl (by kernel_rfl) (by kernel_rfl) (by kernel_rfl) (fun _ _ _ h => h) (Or.inl ⟨by rfl, ?hy14_16_15⟩) hHeld ?re14_16_15
        case hy14_16_15 => (intro w hSw; (try dsimp only at hSw); go_simp; try with_reducible rfl)
        try simp only [Act.put, List.setIfInBounds_toArray, List.set_cons_zero, List.set_cons_succ]
        refine wpAnyH_ready (rs := [17]) (by kernel_rfl) (by simp) ?_
        refine AllReadyH.cons (o := { dst := some 143, op := Go.Op.box 81 (Go.Operand.tmp 142), type := 82, pos := "ordered.go:233", after := #[{ on := 16, ground := Go.Ground.data }], guard := none }) rfl (fun K hK => ?_) AllReadyH.nil
        go_simp
        clear hHeld
        refine hK.out _ _ (KB _ (k4.alloc _)) (fun hHeld => ?_)
        clear hK K
        try simp only [Act.put, List.setIfInBounds_toArray, List.set_cons_zero, List.set_cons_succ]
        refine wpAnyH_take (i := 18) (oi := { dst := some 10, op := Go.Op.assign (Go.Operand.tmp 143), type := 82, pos := "ordered.go:233", after := #[{ on := 17, ground := Go.Ground.data }, { on := 15, ground := Go.Ground.chain }, { on := 0, ground := Go.Ground.phase }, { on := 1, ground := Go.Ground.phase }, { on := 2, ground := Go.Ground.phase }, { on := 3, ground := Go.Ground.phase }, { on := 4, ground := Go.Ground.phase }, { on := 5, ground := Go.Ground.phase }, { on := 6, ground := Go.Ground.phase }, { on := 7, ground := Go.Ground.phase }, { on := 8, ground := Go.Ground.phase }, { on := 9, ground := Go.Ground.phase }, { on := 10, ground := Go.Ground.phase }, { on := 11, ground := Go.Ground.phase }, { on := 12, ground := Go.Ground.phase }, { on := 13, ground := Go.Ground.phase }, { on := 14, ground := Go.Ground.phase }, { on := 15, ground := Go.Ground.phase }, { on := 16, ground := Go.Ground.phase }, { on := 17, ground := Go.Ground.phase }], guard := none }) (v := ?vv14_18_16) rfl (by kernel_rfl) (by kernel_rfl) (by kernel_rfl) (fun _ _ _ h => h) (Or.inl ⟨by rfl, ?hy14_18_16⟩) hHeld ?re14_18_16
        case hy14_18_16 => (intro w hSw; (try dsimp only at hSw); go_simp; try with_reducible rfl)
        try simp only [Act.put, List.setIfInBounds_toArray, List.set_cons_zero, List.set_cons_succ]
        refine wpAnyH_done (by kernel_rfl) ?_ _
        clear hHeld
        go_wp2_with fail
        go_meet
        case rel =>
          exact ⟨Y4.heap.size, gK, cK, gV, cV, rfl, k4.alloc _, heap_alloc_same _ _, oK.alloc _, oV.alloc _, by have := k4.size; omega, ggK, ggV⟩
    refine AllReadyH.cons (o := { dst := some 134, op := Go.Op.makeSlice 79 (Go.Operand.const (Go.Value.int Go.IntKind.i64 0)) (Go.Operand.const (Go.Value.int Go.IntKind.i64 128)), type := 79, pos := "ordered.go:233", after := #[], guard := none }) rfl (fun K hK => ?_) AllReadyH.nil
    · skip
      obtain ⟨mV, hmV⟩ : ∃ m, m = Y0.heap.size := ⟨_, rfl⟩
      refine step_make_own rfl (.const (.int .i64 0)) (.const (.int .i64 128)) 79 rfl N 49 iV (.pointer none) 1 Yba.underlying79 hiV hzV0 hzV1 .i64 .i64 128 rfl rfl (by rw [hzV2]; decide) (by decide) (Nat.le_trans hNX k0.size) mV hmV.symm ?_
      intro Y1 oV j1
      have geV : B + 2 ≤ mV := by have := k0.size; omega
      clear hmV
      have k1 : Kp [] X Y1 := k0.trans j1
      clear hHeld
      refine hK.out _ _ (KB _ k1) (fun hHeld => ?_)
      clear hK K
      try simp only [Act.put, List.setIfInBounds_toArray, List.set_cons_zero, List.set_cons_succ]
      refine wpAnyH_ready (rs := [0]) (by kernel_rfl) (by simp) ?_
      refine AllReadyH.cons (o := { dst := some 126, op := Go.Op.makeSlice 70 (Go.Operand.const (Go.Value.int Go.IntKind.i64 0)) (Go.Operand.const (Go.Value.int Go.IntKind.i64 128)), type := 70, pos := "ordered.go:233", after := #[], guard := none }) rfl (fun K hK => ?_) AllReadyH.nil
      obtain ⟨mK, hmK⟩ : ∃ m, m = Y1.heap.size := ⟨_, rfl⟩
      refine step_make_own rfl (.const (.int .i64 0)) (.const (.int .i64 128)) 70 rfl N 44 iK (.agg #[.int .u8 0, .int .i64 0, .string ⟨#[]⟩]) 3 Yba.underlying70 hiK hzK0 hzK1 .i64 .i64 128 rfl rfl (by rw [hzK2]; decide) (by decide) (Nat.le_trans hNX k1.size) mK hmK.symm ?_
      intro Y2 oK j2
      have geK : B + 2 ≤ mK := by have := k1.size; omega
      clear hmK
      have k2 : Kp [] X Y2 := k1.trans j2
      replace oV := ownsRow_same oV (fun x hx => j2.block x (oV.lt x hx).2 (by simp))
      clear hHeld
      refine hK.out _ _ (KB _ k2) (fun hHeld => ?_)
      clear hK K
      try simp only [Act.put, List.setIfInBounds_toArray, List.set_cons_zero, List.set_cons_succ]
      refine wpAnyH_ready (rs := [7]) (by kernel_rfl) (by simp) ?_
      refine AllReadyH.cons (o := { dst := some 133, op := Go.Op.call { callee := Go.Callee.builtin Go.Builtin.append, args := #[Go.Operand.tmp 126, Go.Operand.tmp 132], argTypes := #[70, 70] }, type := 70, pos := "ordered.go:233", after := #[{ on := 0, ground := Go.Ground.data }, { on := 6, ground := Go.Ground.data }], guard := none }) rfl (fun K hK => ?_) AllReadyH.nil
      obtain ⟨HK, hHK⟩ : ∃ m, m = Y2.heap.size := ⟨_, rfl⟩
      refine step_append_lies Y2 rfl (.tmp 126) (.tmp 132) 70 rfl N 44 iK (.agg #[.int .u8 0, .int .i64 0, .string ⟨#[]⟩]) 3 32 Yba.underlying70 hiK hzK0 hzK1 hzK2 rfl (by decide) (.slice (some ⟨mK, 0, none⟩) 0 128) 0 [] rfl oK ⟨lf.kb, 192, none⟩ 64 _ ((flat lf.ks).drop (64 * 3)) rfl lenK (newsK _ k2) (fun u hu => flat_one _ u (List.mem_of_mem_drop hu)) (by decide) (by unfold maxLen; omega) (by omega) (Nat.le_trans hNX k2.size) HK hHK.symm ?_
      intro gK cK Y3 oKz growK hatK ltK
      have j3 : Kp [mK] Y2 Y3 := Kp.grown growK
      have k3 : Kp [] X Y3 := k2.new j3 (by simp; omega)
      have ggK : B + 2 ≤ gK := by
        have := k2.size
        rcases hatK with h | h
        · have : mK = gK := by simpa [Value.ownBlock] using h
          omega
        · omega
      have neV3 : mV ≠ mK := by
        obtain ⟨_, e1, _⟩ := ownsRow_blk oV
        obtain ⟨_, e2, _⟩ := ownsRow_blk oK
        exact ne_kind e1 e2 (by decide)
      replace oV := ownsRow_same oV (fun x hx => j3.block x (oV.lt x hx).2 (by simp [Value.ownBlock] at hx; subst hx; simp; exact neV3))
      clear oK growK hatK ltK hHK
      have oK := oKz
      clear oKz
      clear hHeld
      refine hK.out _ _ (KB _ k3) (fun hHeld => ?_)
      clear hK K
      try simp only [Act.put, List.setIfInBounds_toArray, List.set_cons_zero, List.set_cons_succ]
      refine wpAnyH_ready (rs := [15]) (by kernel_rfl) (by simp) ?_
      refine AllReadyH.cons (o := { dst := some 141, op := Go.Op.call { callee := Go.Callee.builtin Go.Builtin.append, args := #[Go.Operand.tmp 134, Go.Operand.tmp 140], argTypes := #[79, 79] }, type := 79, pos := "ordered.go:233", after := #[{ on := 8, ground := Go.Ground.data }, { on := 14, ground := Go.Ground.data }, { on := 7, ground := Go.Ground.chain }], guard := none }) rfl (fun K hK => ?_) AllReadyH.nil
      obtain ⟨HV, hHV⟩ : ∃ m, m = Y3.heap.size := ⟨_, rfl⟩
      refine step_append_lies Y3 rfl (.tmp 134) (.tmp 140) 79 rfl N 49 iV (.pointer none) 1 8 Yba.underlying79 hiV hzV0 hzV1 hzV2 rfl (by decide) (.slice (some ⟨mV, 0, none⟩) 0 128) 0 [] rfl oV ⟨lf.vb, 64, none⟩ 64 _ ((lf.vs.map P).drop 64) rfl lenV (newsV _ k3) (fun u hu => ptrs_one _ u (List.mem_of_mem_drop hu)) (by decide) (by unfold maxLen; omega) (by omega) (Nat.le_trans hNX k3.size) HV hHV.symm ?_
      intro gV cV Y4 oVz growV hatV ltV
      have j4 : Kp [mV] Y3 Y4 := Kp.grown growV
      have k4 : Kp [] X Y4 := k3.new j4 (by simp; omega)
      have ggV : B + 2 ≤ gV := by
        have := k3.size
        rcases hatV with h | h
        · have : mV = gV := by simpa [Value.ownBlock] using h
          omega
        · omega
      have neK4 : gK ≠ mV := by
        obtain ⟨_, e1, _⟩ := ownsRow_blk oK
        obtain ⟨_, e2, _⟩ := ownsRow_blk oV
        exact ne_kind e1 e2 (by decide)
      replace oK := ownsRow_same oK (fun x hx => j4.block x (oK.lt x hx).2 (by simp [Value.ownBlock] at hx; subst hx; simp; exact neK4))
      clear oV growV hatV ltV hHV
      have oV := oVz
      clear oVz
      clear hHeld
      refine hK.out _ _ (KB _ k4) (fun hHeld => ?_)
      clear hK K
      try simp only [Act.put, List.setIfInBounds_toArray, List.set_cons_zero, List.set_cons_succ]
      refine wpAnyH_take (i := 16) (oi := { dst := some 142, op := Go.Op.build 81 #[(0, Go.Operand.tmp 133), (1, Go.Operand.tmp 141)], type := 81, pos := "ordered.go:233", after := #[{ on := 7, ground := Go.Ground.data }, { on := 15, ground := Go.Ground.data }], guard := none }) (v := ?vv14_16_17) rfl (by kernel_rfl) (by kernel_rfl) (by kernel_rfl) (fun _ _ _ h => h) (Or.inl ⟨by rfl, ?hy14_16_17⟩) hHeld ?re14_16_17
      case hy14_16_17 => (intro w hSw; (try dsimp only at hSw); go_simp; try with_reducible rfl)
      try simp only [Act.put, List.setIfInBounds_toArray, List.set_cons_zero, List.set_cons_succ]
      refine wpAnyH_ready (rs := [17]) (by kernel_rfl) (by simp) ?_
      refine AllReadyH.cons (o := { dst := some 143, op := Go.Op.box 81 (Go.Operand.tmp 142), type := 82, pos := "ordered.go:233", after := #[{ on := 16, ground := Go.Ground.data }], guard := none }) rfl (fun K hK => ?_) AllReadyH.nil
      go_simp
      clear hHeld
      refine hK.out _ _ (KB _ (k4.alloc _)) (fun hHeld => ?_)
      clear hK K
      try simp only [Act.put, List.setIfInBounds_toArray, List.set_cons_zero, List.set_cons_succ]
      refine wpAnyH_take (i := 18) (oi := { dst := some 10, op := Go.Op.assign (Go.Operand.tmp 143), type := 82, pos := "ordered.go:233", after := #[{ on := 17, ground := Go.Ground.data }, { on := 15, ground := Go.Ground.chain }, { on := 0, ground := Go.Ground.phase }, { on := 1, ground := Go.Ground.phase }, { on := 2, ground := Go.Ground.phase }, { on := 3, ground := Go.Ground.phase }, { on := 4, ground := Go.Ground.phase }, { on := 5, ground := Go.Ground.phase }, { on := 6, ground := Go.Ground.phase }, { on := 7, ground := Go.Ground.phase }, { on := 8, ground := Go.Ground.phase }, { on := 9, ground := Go.Ground.phase }, { on := 10, ground := Go.Ground.phase }, { on := 11, ground := Go.Ground.phase }, { on := 12, ground := Go.Ground.phase }, { on := 13, ground := Go.Ground.phase }, { on := 14, ground := Go.Ground.phase }, { on := 15, ground := Go.Ground.phase }, { on := 16, ground := Go.Ground.phase }, { on := 17, ground := Go.Ground.phase }], guard := none }) (v := ?vv14_18_18) rfl (by kernel_rfl) (by kernel_rfl) (by kernel_rfl) (fun _ _ _ h => h) (Or.inl ⟨by rfl, ?hy14_18_18⟩) hHeld ?re14_18_18
      case hy14_18_18 => (intro w hSw; (try dsimp only at hSw); go_simp; try with_reducible rfl)
      try simp only [Act.put, List.setIfInBounds_toArray, List.set_cons_zero, List.set_cons_succ]
      refine wpAnyH_done (by kernel_rfl) ?_ _
      clear hHeld
      go_wp2_with fail
      go_meet
      case rel =>
        exact ⟨Y4.heap.size, gK, cK, gV, cV, rfl, k4.alloc _, heap_alloc_same _ _, oK.alloc _, oV.alloc _, by have := k4.size; omega, ggK, ggV⟩
  case rest =>
    rename World => U0
    obtain ⟨rb, gk, ck, gv, cv, rfl, kc, zr, oRK, oRV, hr1, hr2, hr3⟩ := hcut
    have kW : Kp [] W1 U0 := kX.trans kc
    clear KB newsK newsV lenK lenV g1 g2 g2' g4 g4' g5 g5' g6 g7 hwr hmap hlc1' hlcell hkc4 hvc4 hlc4 hlc3 hmW x0 x1 hWs
    have zb := kW.at hlf1 (by simp)
    have zk : U0.heap[lf.kb]? = some (.cells kcur 44) := kW.at (hK1.at hkb (by simp; exact q3.symm)) (by simp)
    have zv : U0.heap[lf.vb]? = some (.cells vcur 49) := kW.at (hK1.at hvb (by simp; exact q4.symm)) (by simp)
    have szK : Hid (192 + 64 * 3 ≤ kcur.size) := show 192 + 64 * 3 ≤ kcur.size by have := HF.out; omega
    have szV : Hid (64 + 64 * 1 ≤ vcur.size) := show 64 + 64 * 1 ≤ vcur.size by have := HF.out; omega
    go_upto_region 15 with fail
    go_cut [] (fun wx => Kp [lf.kb] U0 wx ∧ ∃ zs : List Value, zs.length = 64 * 3 ∧ wx.heap[lf.kb]? = some (.cells (Go.splice kcur.toList 192 zs).toArray 44))
    case first => as_aux_lemma =>
      have d0 : U0.cell? ⟨lf.b, 0, none⟩ = some (.slice (some ⟨lf.kb, 0, none⟩) n lf.kc) := by rw [cell_of zb]; rfl
      have zrK : Hid (∀ w, (zeroValue 44).run Yba.prog w = .ok (.agg #[.int .u8 0, .int .i64 0, .string ⟨#[]⟩]) w) := by intro w; simp [zeroValue, typeInfo, hiK, hzK0]
      have oneK : Hid (∀ v ∈ (Builtin.zeroCells (Value.agg #[.int .u8 0, .int .i64 0, .string ⟨#[]⟩]).cells 64).toList, v.oneCell' = true) := zero_one _ _ (by intro j hj; simp [Value.cells] at hj; match j, hj with | 0, _ => rfl | 1, _ => rfl | 2, _ => rfl) (by decide)
      go_wp2_with (refine wpList_clear_any rfl (.tmp 149) 70 rfl 44 (.agg #[.int .u8 0, .int .i64 0, .string ⟨#[]⟩]) Yba.underlying70 zrK.out lf.kb 192 64 _ rfl (by decide) kcur 44 zk 3 rfl szK.out oneK.out ?_; intro U1 zs1 hzs1 hgU1 hkU1)
      go_meet
      case rel => exact ⟨hkU1.out, zs1, hzs1.out, hgU1.out⟩
    case rest =>
    rename World => U1
    obtain ⟨kU1, zs1, hzs1, hgU1⟩ := hcut
    have HgU1 : Hid (U1.heap[lf.kb]? = some (.cells (Go.splice kcur.toList 192 zs1).toArray 44)) := hgU1
    have Hzs1 : Hid (zs1.length = 64 * 3) := hzs1
    clear hgU1 hzs1
    have zb1 := kU1.at zb (by simp; exact q5)
    have zv1 := kU1.at zv (by simp; exact q7.symm)
    go_upto_region 16 with fail
    go_cut [] (fun wx => Kp [lf.vb] U1 wx ∧ ∃ zs : List Value, zs.length = 64 * 1 ∧ wx.heap[lf.vb]? = some (.cells (Go.splice vcur.toList 64 zs).toArray 49))
    case first => as_aux_lemma =>
      have d1 : U1.cell? ⟨lf.b, 1, none⟩ = some (.slice (some ⟨lf.vb, 0, none⟩) n lf.vc) := by rw [cell_of zb1]; rfl
      have zrV : Hid (∀ w, (zeroValue 49).run Yba.prog w = .ok (.pointer none) w) := by intro w; simp [zeroValue, typeInfo, hiV, hzV0]
      have oneV : Hid (∀ v ∈ (Builtin.zeroCells (Value.pointer none).cells 64).toList, v.oneCell' = true) := zero_one _ _ (by intro j hj; simp [Value.cells] at hj; subst hj; rfl) (by decide)
      go_wp2_with (refine wpList_clear_any rfl (.tmp 155) 79 rfl 49 (.pointer none) Yba.underlying79 zrV.out lf.vb 64 64 _ rfl (by decide) vcur 49 zv1 1 rfl szV.out oneV.out ?_; intro U2 zs2 hzs2 hgU2 hkU2)
      go_meet
      case rel => exact ⟨hkU2.out, zs2, hzs2.out, hgU2.out⟩
    case rest =>
    rename World => U2
    obtain ⟨kU2, zs2, hzs2, hgU2⟩ := hcut
    have HgU2 : Hid (U2.heap[lf.vb]? = some (.cells (Go.splice vcur.toList 64 zs2).toArray 49)) := hgU2
    have Hzs2 : Hid (zs2.length = 64 * 1) := hzs2
    clear hgU2 hzs2
    have zb2 := kU2.at zb1 (by simp; exact q6)
    go_upto_region 17 with fail
    go_cut [] (fun wx => Kp [lf.b] U2 wx ∧ wx.heap[lf.b]? = some (.cells #[.slice (some ⟨lf.kb, 0, none⟩) 64 lf.kc, .slice (some ⟨lf.vb, 0, none⟩) 64 lf.vc] 81))
    case first => as_aux_lemma =>
      have d2 : U2.cell? ⟨lf.b, 0, none⟩ = some (.slice (some ⟨lf.kb, 0, none⟩) n lf.kc) := by rw [cell_of zb2]; rfl
      have d3 : U2.cell? ⟨lf.b, 1, none⟩ = some (.slice (some ⟨lf.vb, 0, none⟩) n lf.vc) := by rw [cell_of zb2]; rfl
      have fb2 : ∀ o, U2.frozen? ⟨lf.b, o, none⟩ = false := fun o => frozen_of zb2
      have d4 : Hid (∀ x, (U2.setCell ⟨lf.b, 0, none⟩ x).cell? ⟨lf.b, 1, none⟩ = some (.slice (some ⟨lf.vb, 0, none⟩) n lf.vc)) := by intro x; rw [cell_of (heap_setCell_same' _ zb2)]; rfl
      have g10 : (64 : Int) ≤ (lf.kc : Int) := by have := HF.out; omega
      have g11 : (64 : Int) ≤ (lf.vc : Int) := by have := HF.out; omega
      refine wp_region_until (z := 19) (S := (fun w' => w'.cell? ⟨lf.b, 1, none⟩ = some (.slice (some ⟨lf.vb, 0, none⟩) n lf.vc))) (by kernel_rfl) (d3) (fun hHeld => ?_)
      refine wpAnyU_take (i := 0) (oi := { dst := some 156, op := Go.Op.move (Go.Operand.tmp 8), type := 82, pos := "ordered.go:239", after := #[], guard := none }) (v := ?vv17_0_19) rfl (by kernel_rfl) (by kernel_rfl) (by kernel_rfl) (by kernel_rfl) (fun _ _ _ h => h) (Or.inl ⟨by rfl, ?hy17_0_19⟩) hHeld ?re17_0_19
      case hy17_0_19 => (intro w hSw; (try dsimp only at hSw); go_simp; try with_reducible rfl)
      try simp only [Act.put, List.setIfInBounds_toArray, List.set_cons_zero, List.set_cons_succ]
      refine wpAnyU_take (i := 1) (oi := { dst := some 157, op := Go.Op.move (Go.Operand.tmp 8), type := 82, pos := "ordered.go:239", after := #[{ on := 16, ground := Go.Ground.gcOnly Go.Departure.lateStores }], guard := none }) (v := ?vv17_1_20) rfl (by kernel_rfl) (by kernel_rfl) (by kernel_rfl) (by kernel_rfl) (fun _ _ _ h => h) (Or.inl ⟨by rfl, ?hy17_1_20⟩) hHeld ?re17_1_20
      case hy17_1_20 => (intro w hSw; (try dsimp only at hSw); go_simp; try with_reducible rfl)
      try simp only [Act.put, List.setIfInBounds_toArray, List.set_cons_zero, List.set_cons_succ]
      refine wpAnyU_take (i := 2) (oi := { dst := some 158, op := Go.Op.move (Go.Operand.tmp 8), type := 82, pos := "ordered.go:239", after := #[], guard := none }) (v := ?vv17_2_21) rfl (by kernel_rfl) (by kernel_rfl) (by kernel_rfl) (by kernel_rfl) (fun _ _ _ h => h) (Or.inl ⟨by rfl, ?hy17_2_21⟩) hHeld ?re17_2_21
      case hy17_2_21 => (intro w hSw; (try dsimp only at hSw); go_simp; try with_reducible rfl)
      try simp only [Act.put, List.setIfInBounds_toArray, List.set_cons_zero, List.set_cons_succ]
      refine wpAnyU_take (i := 3) (oi := { dst := some 159, op := Go.Op.nilCheck (Go.Operand.tmp 158), type := 0, pos := "ordered.go:239", after := #[{ on := 2, ground := Go.Ground.data }], guard := none }) (v := ?vv17_3_22) rfl (by kernel_rfl) (by kernel_rfl) (by kernel_rfl) (by kernel_rfl) (fun _ _ _ h => h) (Or.inl ⟨by rfl, ?hy17_3_22⟩) hHeld ?re17_3_22
      case hy17_3_22 => (intro w hSw; (try dsimp only at hSw); go_simp; try with_reducible rfl)
      try simp only [Act.put, List.setIfInBounds_toArray, List.set_cons_zero, List.set_cons_succ]
      refine wpAnyU_take (i := 4) (oi := { dst := some 160, op := Go.Op.fieldAddr 81 (Go.Operand.tmp 159) 0, type := 0, pos := "ordered.go:239", after := #[{ on := 3, ground := Go.Ground.data }], guard := none }) (v := ?vv17_4_23) rfl (by kernel_rfl) (by kernel_rfl) (by kernel_rfl) (by kernel_rfl) (fun _ _ _ h => h) (Or.inl ⟨by rfl, ?hy17_4_23⟩) hHeld ?re17_4_23
      case hy17_4_23 => (intro w hSw; (try dsimp only at hSw); go_simp; try with_reducible rfl)
      try simp only [Act.put, List.setIfInBounds_toArray, List.set_cons_zero, List.set_cons_succ]
      refine wpAnyU_take (i := 6) (oi := { dst := some 162, op := Go.Op.move (Go.Operand.tmp 9), type := 3, pos := "ordered.go:239", after := #[], guard := none }) (v := ?vv17_6_24) rfl (by kernel_rfl) (by kernel_rfl) (by kernel_rfl) (by kernel_rfl) (fun _ _ _ h => h) (Or.inl ⟨by rfl, ?hy17_6_24⟩) hHeld ?re17_6_24
      case hy17_6_24 => (intro w hSw; (try dsimp only at hSw); go_simp; try with_reducible rfl)
      try simp only [Act.put, List.setIfInBounds_toArray, List.set_cons_zero, List.set_cons_succ]
      refine wpAnyU_take (i := 8) (oi := { dst := some 164, op := Go.Op.move (Go.Operand.tmp 8), type := 82, pos := "ordered.go:239", after := #[], guard := none }) (v := ?vv17_8_25) rfl (by kernel_rfl) (by kernel_rfl) (by kernel_rfl) (by kernel_rfl) (fun _ _ _ h => h) (Or.inl ⟨by rfl, ?hy17_8_25⟩) hHeld ?re17_8_25
      case hy17_8_25 => (intro w hSw; (try dsimp only at hSw); go_simp; try with_reducible rfl)
      try simp only [Act.put, List.setIfInBounds_toArray, List.set_cons_zero, List.set_cons_succ]
      refine wpAnyU_take (i := 9) (oi := { dst := some 165, op := Go.Op.nilCheck (Go.Operand.tmp 164), type := 0, pos := "ordered.go:239", after := #[{ on := 8, ground := Go.Ground.data }], guard := none }) (v := ?vv17_9_26) rfl (by kernel_rfl) (by kernel_rfl) (by kernel_rfl) (by kernel_rfl) (fun _ _ _ h => h) (Or.inl ⟨by rfl, ?hy17_9_26⟩) hHeld ?re17_9_26
      case hy17_9_26 => (intro w hSw; (try dsimp only at hSw); go_simp; try with_reducible rfl)
      try simp only [Act.put, List.setIfInBounds_toArray, List.set_cons_zero, List.set_cons_succ]
      refine wpAnyU_take (i := 10) (oi := { dst := some 166, op := Go.Op.fieldAddr 81 (Go.Operand.tmp 165) 1, type := 0, pos := "ordered.go:239", after := #[{ on := 9, ground := Go.Ground.data }], guard := none }) (v := ?vv17_10_27) rfl (by kernel_rfl) (by kernel_rfl) (by kernel_rfl) (by kernel_rfl) (fun _ _ _ h => h) (Or.inl ⟨by rfl, ?hy17_10_27⟩) hHeld ?re17_10_27
      case hy17_10_27 => (intro w hSw; (try dsimp only at hSw); go_simp; try with_reducible rfl)
      try simp only [Act.put, List.setIfInBounds_toArray, List.set_cons_zero, List.set_cons_succ]
      refine wpAnyU_take (i := 11) (oi := { dst := some 167, op := Go.Op.load 79 (Go.Operand.tmp 166), type := 79, pos := "ordered.go:239", after := #[{ on := 10, ground := Go.Ground.data }], guard := none }) (v := ?vv17_11_28) rfl (by kernel_rfl) (by kernel_rfl) (by kernel_rfl) (by kernel_rfl) (fun _ _ _ h => h) (Or.inl ⟨by rfl, ?hy17_11_28⟩) hHeld ?re17_11_28
      case hy17_11_28 => (intro w hSw; (try dsimp only at hSw); go_simp; try with_reducible rfl)
      try simp only [Act.put, List.setIfInBounds_toArray, List.set_cons_zero, List.set_cons_succ]
      refine wpAnyU_take (i := 12) (oi := { dst := some 168, op := Go.Op.move (Go.Operand.tmp 9), type := 3, pos := "ordered.go:239", after := #[], guard := none }) (v := ?vv17_12_29) rfl (by kernel_rfl) (by kernel_rfl) (by kernel_rfl) (by kernel_rfl) (fun _ _ _ h => h) (Or.inl ⟨by rfl, ?hy17_12_29⟩) hHeld ?re17_12_29
      case hy17_12_29 => (intro w hSw; (try dsimp only at hSw); go_simp; try with_reducible rfl)
      try simp only [Act.put, List.setIfInBounds_toArray, List.set_cons_zero, List.set_cons_succ]
      refine wpAnyU_take (i := 13) (oi := { dst := some 169, op := Go.Op.slice 79 (Go.Operand.tmp 167) none (some (Go.Operand.tmp 168)) none, type := 79, pos := "ordered.go:239", after := #[{ on := 11, ground := Go.Ground.data }, { on := 12, ground := Go.Ground.data }], guard := none }) (v := ?vv17_13_30) rfl (by kernel_rfl) (by kernel_rfl) (by kernel_rfl) (by kernel_rfl) (fun _ _ _ h => h) (Or.inl ⟨by rfl, ?hy17_13_30⟩) hHeld ?re17_13_30
      case hy17_13_30 => (intro w hSw; (try dsimp only at hSw); go_simp; try with_reducible rfl)
      try simp only [Act.put, List.setIfInBounds_toArray, List.set_cons_zero, List.set_cons_succ]
      refine wpAnyU_ready (rs := [5]) (by kernel_rfl) (by simp) ?_
      refine AllReadyU.cons (o := { dst := some 161, op := Go.Op.load 70 (Go.Operand.tmp 160), type := 70, pos := "ordered.go:239", after := #[{ on := 4, ground := Go.Ground.data }], guard := none }) rfl (fun K hK => ?_) AllReadyU.nil
      go_simp
      clear hHeld
      refine hK.out _ _ (fun hz => d3) (fun hHeld => ?_)
      clear hK K
      replace hHeld := hHeld (by decide)
      try simp only [Act.put, List.setIfInBounds_toArray, List.set_cons_zero, List.set_cons_succ]
      refine wpAnyU_take (i := 7) (oi := { dst := some 163, op := Go.Op.slice 70 (Go.Operand.tmp 161) none (some (Go.Operand.tmp 162)) none, type := 70, pos := "ordered.go:239", after := #[{ on := 5, ground := Go.Ground.data }, { on := 6, ground := Go.Ground.data }], guard := none }) (v := ?vv17_7_31) rfl (by kernel_rfl) (by kernel_rfl) (by kernel_rfl) (by kernel_rfl) (fun _ _ _ h => h) (Or.inl ⟨by rfl, ?hy17_7_31⟩) hHeld ?re17_7_31
      case hy17_7_31 => (intro w hSw; (try dsimp only at hSw); go_simp; try with_reducible rfl)
      try simp only [Act.put, List.setIfInBounds_toArray, List.set_cons_zero, List.set_cons_succ]
      refine wpAnyU_take (i := 14) (oi := { dst := some 170, op := Go.Op.nilCheck (Go.Operand.tmp 156), type := 0, pos := "ordered.go:239", after := #[{ on := 0, ground := Go.Ground.data }, { on := 0, ground := Go.Ground.phase }, { on := 1, ground := Go.Ground.textOnly Go.Departure.lateStores }, { on := 2, ground := Go.Ground.phase }, { on := 3, ground := Go.Ground.phase }, { on := 4, ground := Go.Ground.phase }, { on := 5, ground := Go.Ground.phase }, { on := 6, ground := Go.Ground.phase }, { on := 7, ground := Go.Ground.phase }, { on := 8, ground := Go.Ground.textOnly Go.Departure.lateStores }, { on := 9, ground := Go.Ground.textOnly Go.Departure.lateStoresUnsure }, { on := 10, ground := Go.Ground.textOnly Go.Departure.lateStoresUnsure }, { on := 11, ground := Go.Ground.phase }, { on := 12, ground := Go.Ground.textOnly Go.Departure.lateStores }, { on := 13, ground := Go.Ground.textOnly Go.Departure.lateStoresUnsure }], guard := none }) (v := ?vv17_14_32) rfl (by kernel_rfl) (by kernel_rfl) (by kernel_rfl) (by kernel_rfl) (fun _ _ _ h => h) (Or.inl ⟨by rfl, ?hy17_14_32⟩) hHeld ?re17_14_32
      case hy17_14_32 => (intro w hSw; (try dsimp only at hSw); go_simp; try with_reducible rfl)
      try simp only [Act.put, List.setIfInBounds_toArray, List.set_cons_zero, List.set_cons_succ]
      refine wpAnyU_take (i := 15) (oi := { dst := some 171, op := Go.Op.fieldAddr 81 (Go.Operand.tmp 170) 0, type := 0, pos := "ordered.go:239", after := #[{ on := 14, ground := Go.Ground.data }, { on := 0, ground := Go.Ground.phase }, { on := 1, ground := Go.Ground.textOnly Go.Departure.lateStores }, { on := 2, ground := Go.Ground.phase }, { on := 3, ground := Go.Ground.phase }, { on := 4, ground := Go.Ground.phase }, { on := 5, ground := Go.Ground.phase }, { on := 6, ground := Go.Ground.phase }, { on := 7, ground := Go.Ground.phase }, { on := 8, ground := Go.Ground.textOnly Go.Departure.lateStores }, { on := 9, ground := Go.Ground.textOnly Go.Departure.lateStoresUnsure }, { on := 10, ground := Go.Ground.textOnly Go.Departure.lateStoresUnsure }, { on := 11, ground := Go.Ground.phase }, { on := 12, ground := Go.Ground.textOnly Go.Departure.lateStores }, { on := 13, ground := Go.Ground.textOnly Go.Departure.lateStoresUnsure }], guard := none }) (v := ?vv17_15_33) rfl (by kernel_rfl) (by kernel_rfl) (by kernel_rfl) (by kernel_rfl) (fun _ _ _ h => h) (Or.inl ⟨by rfl, ?hy17_15_33⟩) hHeld ?re17_15_33
      case hy17_15_33 => (intro w hSw; (try dsimp only at hSw); go_simp; try with_reducible rfl)
      try simp only [Act.put, List.setIfInBounds_toArray, List.set_cons_zero, List.set_cons_succ]
      refine wpAnyU_ready (rs := [16]) (by kernel_rfl) (by simp) ?_
      refine AllReadyU.cons (o := { dst := none, op := Go.Op.store 70 (Go.Operand.tmp 171) (Go.Operand.tmp 163), type := 0, pos := "ordered.go:239", after := #[{ on := 15, ground := Go.Ground.data }, { on := 7, ground := Go.Ground.data }, { on := 0, ground := Go.Ground.phase }, { on := 1, ground := Go.Ground.textOnly Go.Departure.lateStores }, { on := 2, ground := Go.Ground.phase }, { on := 3, ground := Go.Ground.phase }, { on := 4, ground := Go.Ground.phase }, { on := 5, ground := Go.Ground.phase }, { on := 6, ground := Go.Ground.phase }, { on := 7, ground := Go.Ground.phase }, { on := 8, ground := Go.Ground.textOnly Go.Departure.lateStores }, { on := 9, ground := Go.Ground.textOnly Go.Departure.lateStoresUnsure }, { on := 10, ground := Go.Ground.textOnly Go.Departure.lateStoresUnsure }, { on := 11, ground := Go.Ground.phase }, { on := 12, ground := Go.Ground.textOnly Go.Departure.lateStores }, { on := 13, ground := Go.Ground.textOnly Go.Departure.lateStoresUnsure }], guard := none }) rfl (fun K hK => ?_) AllReadyU.nil
      go_simp
      clear hHeld
      refine hK.out _ _ (fun hz => d4.out _) (fun hHeld => ?_)
      clear hK K
      replace hHeld := hHeld (by decide)
      try simp only [Act.put, List.setIfInBounds_toArray, List.set_cons_zero, List.set_cons_succ]
      refine wpAnyU_ready (rs := [17]) (by kernel_rfl) (by simp) ?_
      refine AllReadyU.cons (o := { dst := some 172, op := Go.Op.nilCheck (Go.Operand.tmp 157), type := 0, pos := "ordered.go:239", after := #[{ on := 1, ground := Go.Ground.data }, { on := 0, ground := Go.Ground.phase }, { on := 1, ground := Go.Ground.phase }, { on := 2, ground := Go.Ground.phase }, { on := 3, ground := Go.Ground.phase }, { on := 4, ground := Go.Ground.phase }, { on := 5, ground := Go.Ground.phase }, { on := 6, ground := Go.Ground.phase }, { on := 7, ground := Go.Ground.phase }, { on := 8, ground := Go.Ground.phase }, { on := 9, ground := Go.Ground.phase }, { on := 10, ground := Go.Ground.phase }, { on := 11, ground := Go.Ground.phase }, { on := 12, ground := Go.Ground.phase }, { on := 13, ground := Go.Ground.phase }, { on := 14, ground := Go.Ground.phase }, { on := 15, ground := Go.Ground.phase }, { on := 16, ground := Go.Ground.phase }], guard := none }) rfl (fun K hK => ?_) AllReadyU.nil
      go_simp
      clear hHeld
      refine hK.out _ _ (fun hz => d4.out _) (fun hHeld => ?_)
      clear hK K
      replace hHeld := hHeld (by decide)
      try simp only [Act.put, List.setIfInBounds_toArray, List.set_cons_zero, List.set_cons_succ]
      refine wpAnyU_take (i := 18) (oi := { dst := some 173, op := Go.Op.fieldAddr 81 (Go.Operand.tmp 172) 1, type := 0, pos := "ordered.go:239", after := #[{ on := 17, ground := Go.Ground.data }, { on := 0, ground := Go.Ground.phase }, { on := 1, ground := Go.Ground.phase }, { on := 2, ground := Go.Ground.phase }, { on := 3, ground := Go.Ground.phase }, { on := 4, ground := Go.Ground.phase }, { on := 5, ground := Go.Ground.phase }, { on := 6, ground := Go.Ground.phase }, { on := 7, ground := Go.Ground.phase }, { on := 8, ground := Go.Ground.phase }, { on := 9, ground := Go.Ground.phase }, { on := 10, ground := Go.Ground.phase }, { on := 11, ground := Go.Ground.phase }, { on := 12, ground := Go.Ground.phase }, { on := 13, ground := Go.Ground.phase }, { on := 14, ground := Go.Ground.phase }, { on := 15, ground := Go.Ground.phase }, { on := 16, ground := Go.Ground.phase }], guard := none }) (v := ?vv17_18_34) rfl (by kernel_rfl) (by kernel_rfl) (by kernel_rfl) (by kernel_rfl) (fun _ _ _ h => h) (Or.inl ⟨by rfl, ?hy17_18_34⟩) hHeld ?re17_18_34
      case hy17_18_34 => (intro w hSw; (try dsimp only at hSw); go_simp; try with_reducible rfl)
      try simp only [Act.put, List.setIfInBounds_toArray, List.set_cons_zero, List.set_cons_succ]
      refine wpAnyU_ready (rs := [19]) (by kernel_rfl) (by simp) ?_
      refine AllReadyU.cons (o := { dst := none, op := Go.Op.store 79 (Go.Operand.tmp 173) (Go.Operand.tmp 169), type := 0, pos := "ordered.go:239", after := #[{ on := 18, ground := Go.Ground.data }, { on := 13, ground := Go.Ground.data }, { on := 16, ground := Go.Ground.chain }, { on := 0, ground := Go.Ground.phase }, { on := 1, ground := Go.Ground.phase }, { on := 2, ground := Go.Ground.phase }, { on := 3, ground := Go.Ground.phase }, { on := 4, ground := Go.Ground.phase }, { on := 5, ground := Go.Ground.phase }, { on := 6, ground := Go.Ground.phase }, { on := 7, ground := Go.Ground.phase }, { on := 8, ground := Go.Ground.phase }, { on := 9, ground := Go.Ground.phase }, { on := 10, ground := Go.Ground.phase }, { on := 11, ground := Go.Ground.phase }, { on := 12, ground := Go.Ground.phase }, { on := 13, ground := Go.Ground.phase }, { on := 14, ground := Go.Ground.phase }, { on := 15, ground := Go.Ground.phase }, { on := 16, ground := Go.Ground.phase }], guard := none }) rfl (fun K hK => ?_) AllReadyU.nil
      go_simp
      clear hHeld
      refine hK.out _ _ (fun hz => absurd rfl hz) (fun hHeld => ?_)
      clear hK K
      try simp only [Act.put, List.setIfInBounds_toArray, List.set_cons_zero, List.set_cons_succ]
      refine wpAnyU_done (by kernel_rfl) ?_ _
      clear hHeld
      go_wp2_with fail
      go_meet
      case rel => exact ⟨(((Kp.refl _ _).setCell (by simp) _).setCell (by simp) _).drew, heap_setCell_same' _ (heap_setCell_same' _ zb2)⟩
    case rest => as_aux_lemma =>
    rename World => U3
    obtain ⟨kU3, zb3⟩ := hcut
    have kW3 : Kp [lf.kb, lf.vb, lf.b] W1 U3 := (((kW.any).trans (kU1.mono (by simp))).trans (kU2.mono (by simp))).trans (kU3.mono (by simp))
    have kU13 : Kp [lf.vb, lf.b] U1 U3 := (kU2.mono (by simp)).trans (kU3.mono (by simp))
    obtain ⟨l1, hl1⟩ : ∃ l1 : Leaf, l1 = ⟨lf.b, lf.kb, lf.kc, lf.vb, lf.vc, lf.ks.take 64, lf.vs.take 64⟩ := ⟨_, rfl⟩
    obtain ⟨l2, hl2⟩ : ∃ l2 : Leaf, l2 = ⟨rb, gk, ck, gv, cv, lf.ks.drop 64, lf.vs.drop 64⟩ := ⟨_, rfl⟩
    have n1 : l1.ks.length = 64 := by rw [hl1]; show (lf.ks.take 64).length = 64; rw [List.length_take, ← HN.out, HF.out]; rfl
    have n2 : l2.ks.length = 64 := by rw [hl2]; show (lf.ks.drop 64).length = 64; rw [List.length_drop, ← HN.out, HF.out]
    have oX := ownsRow_same hkey1 (w' := U0) (fun x hx => by simp [Value.ownBlock] at hx; subst hx; exact kW.block _ (by omega) (by simp))
    have vX := ownsRow_same hval1 (w' := U1) (fun x hx => by simp [Value.ownBlock] at hx; subst hx; rw [kU1.block _ (by have := kW.size; omega) (by simp; exact q7.symm)]; exact kW.block _ (by omega) (by simp))
    have sU0 := kW.size
    have sU1 := kU1.size
    have sU2 := kU2.size
    have rbw := lt_of zr
    obtain ⟨gkc, zgk, _⟩ := ownsRow_blk oRK
    obtain ⟨gvc, zgv, _⟩ := ownsRow_blk oRV
    have lgk := lt_of zgk
    have lgv := lt_of zgv
    have zrb3 : U3.heap[rb]? = some (.cells #[.slice (some ⟨gk, 0, none⟩) 64 ck, .slice (some ⟨gv, 0, none⟩) 64 cv] 81) := kU3.at (kU2.at (kU1.at zr (by simp; omega)) (by simp; omega)) (by simp; omega)
    have ok1 : LeafOk N U3 l1 := by
      refine ⟨by rw [hl1]; exact hNb, ?_, ?_, ?_, by omega, by omega⟩
      · rw [n1, hl1]; exact zb3
      · have h := ownsRow_half oX zk (m := 64) (by have := HF.out; omega) (by have := szK.out; have := Hzs1.out; omega) HgU1.out
        rw [n1, hl1]
        rw [flat_take]
        exact ownsRow_same h (fun x hx => by simp [Value.ownBlock] at hx; subst hx; exact kU13.block _ (by omega) (by simp; exact ⟨q7, q5.symm⟩))
      · have h := ownsRow_half vX zv1 (m := 64) (by have := HF.out; omega) (by have := szV.out; have := Hzs2.out; omega) HgU2.out
        rw [n1, hl1]
        show U3.ownsRow N 49 1 (.slice (some ⟨lf.vb, 0, none⟩) 64 lf.vc) 64 ((lf.vs.take 64).map P)
        rw [List.map_take]
        exact ownsRow_same h (fun x hx => by simp [Value.ownBlock] at hx; subst hx; exact kU3.block _ (by omega) (by simp; exact q6.symm))
    have ok2 : LeafOk N U3 l2 := by
      refine ⟨by rw [hl2]; show N ≤ rb; omega, ?_, ?_, ?_, by omega, by omega⟩
      · rw [n2, hl2]; exact zrb3
      · rw [n2, hl2, flat_drop]
        exact ownsRow_same oRK (fun x hx => by simp [Value.ownBlock] at hx; subst hx; rw [kU3.block _ (by omega) (by simp; omega), kU2.block _ (by omega) (by simp; omega), kU1.block _ (by omega) (by simp; omega)])
      · rw [n2, hl2]
        show U3.ownsRow N 49 1 (.slice (some ⟨gv, 0, none⟩) 64 cv) 64 ((lf.vs.drop 64).map P)
        rw [List.map_drop]
        exact ownsRow_same oRV (fun x hx => by simp [Value.ownBlock] at hx; subst hx; rw [kU3.block _ (by omega) (by simp; omega), kU2.block _ (by omega) (by simp; omega), kU1.block _ (by omega) (by simp; omega)])
    have hm3 := kW3.at hm1 (by simp; exact ⟨q3, q4, q2⟩)
    have zB3 := kW3.at y0 (by simp; omega)
    have zK3 := kW3.at y1 (by simp; omega)
    have row3 : U3.ownsRow N 82 1 (.slice (some ⟨lb, 0, none⟩) LL lc) LL ((L1 ++ lf :: L2).map fun l : Leaf => P l.b) := by
      have h := hLv1.row
      rw [← HLL.out] at h
      exact ownsRow_same h (fun x hx => by simp [Value.ownBlock] at hx; subst hx; exact kW3.block _ (by omega) (by simp; exact ⟨q9, q10, q8⟩))
    have sU3 := kW3.size
    have Hl1 : Hid (l1 = ⟨lf.b, lf.kb, lf.kc, lf.vb, lf.vc, lf.ks.take 64, lf.vs.take 64⟩) := hl1
    have Hl2 : Hid (l2 = ⟨rb, gk, ck, gv, cv, lf.ks.drop 64, lf.vs.drop 64⟩) := hl2
    have e1b : l1.b = lf.b ∧ l1.kb = lf.kb ∧ l1.vb = lf.vb := by rw [hl1]; exact ⟨rfl, rfl, rfl⟩
    have e2b : l2.b = rb ∧ l2.kb = gk ∧ l2.vb = gv := by rw [hl2]; exact ⟨rfl, rfl, rfl⟩
    have E1b : Hid (l1.b = lf.b ∧ l1.kb = lf.kb ∧ l1.vb = lf.vb) := e1b
    have E2b : Hid (l2.b = rb ∧ l2.kb = gk ∧ l2.vb = gv) := e2b
    have Hn1 : Hid (l1.ks.length = 64) := n1
    have Hn2 : Hid (l2.ks.length = 64) := n2
    clear e1b e2b n1 n2 hl1 hl2 oX vX zgk zgv zrb3 zb3 kU13 kU3 zb2 HgU1 HgU2 Hzs1 Hzs2 kU1 kU2 zb1 zv1 zb zk zv oRK oRV zr kc kW hkeyX hvalX hlfX kX
    obtain ⟨l', hl'⟩ : ∃ l', l' = L1.length + 1 := ⟨_, rfl⟩
    have hwa : IntKind.i64.wrap ((L1.length : Int) + 1) = (l' : Int) := by rw [IntKind.wrap_i64]; omega
    have ptr1 : ∀ u ∈ (L1 ++ lf :: L2).map (fun l : Leaf => P l.b), u.oneCell' = true := by
      intro u hu
      obtain ⟨x, _, rfl⟩ := List.mem_map.1 hu
      rfl
    have hCl := insL N lb lc l' rb LL ((L1 ++ lf :: L2).map fun l : Leaf => P l.b) U3.drew row3 ptr1 (by omega) (by omega) (by show N ≤ U3.heap.size; omega)
    have Hl' : Hid (l' = L1.length + 1) := hl'
    clear hl' ptr1
    have s1 : U3.cell? ⟨B, 1, none⟩ = some (.int .i64 L1.length) := by rw [cell_of zB3]; rfl
    have s2 : U3.cell? ⟨mb, 1, none⟩ = some (.slice (some ⟨lb, 0, none⟩) LL lc) := by rw [cell_of hm3]; rfl
    go_upto_region 18 with fail
    refine wp_region_held_drew (S := (fun w' => w'.cell? ⟨B, 1, none⟩ = some (.int .i64 L1.length))) (by kernel_rfl) (s1) (fun hHeld => ?_)
    refine wpAnyH_take (i := 0) (oi := { dst := some 174, op := Go.Op.move (Go.Operand.tmp 0), type := 33, pos := "ordered.go:240", after := #[], guard := none }) (v := ?vv18_0_35) rfl (by kernel_rfl) (by kernel_rfl) (by kernel_rfl) (fun _ _ _ h => h) (Or.inl ⟨by rfl, ?hy18_0_35⟩) hHeld ?re18_0_35
    case hy18_0_35 => (intro w hSw; (try dsimp only at hSw); go_simp; try with_reducible rfl)
    try simp only [Act.put, List.setIfInBounds_toArray, List.set_cons_zero, List.set_cons_succ]
    refine wpAnyH_take (i := 1) (oi := { dst := some 175, op := Go.Op.move (Go.Operand.tmp 0), type := 33, pos := "ordered.go:240", after := #[], guard := none }) (v := ?vv18_1_36) rfl (by kernel_rfl) (by kernel_rfl) (by kernel_rfl) (fun _ _ _ h => h) (Or.inl ⟨by rfl, ?hy18_1_36⟩) hHeld ?re18_1_36
    case hy18_1_36 => (intro w hSw; (try dsimp only at hSw); go_simp; try with_reducible rfl)
    try simp only [Act.put, List.setIfInBounds_toArray, List.set_cons_zero, List.set_cons_succ]
    refine wpAnyH_take (i := 2) (oi := { dst := some 176, op := Go.Op.nilCheck (Go.Operand.tmp 175), type := 0, pos := "ordered.go:240", after := #[{ on := 1, ground := Go.Ground.data }], guard := none }) (v := ?vv18_2_37) rfl (by kernel_rfl) (by kernel_rfl) (by kernel_rfl) (fun _ _ _ h => h) (Or.inl ⟨by rfl, ?hy18_2_37⟩) hHeld ?re18_2_37
    case hy18_2_37 => (intro w hSw; (try dsimp only at hSw); go_simp; try with_reducible rfl)
    try simp only [Act.put, List.setIfInBounds_toArray, List.set_cons_zero, List.set_cons_succ]
    refine wpAnyH_take (i := 3) (oi := { dst := some 177, op := Go.Op.fieldAddr 85 (Go.Operand.tmp 176) 1, type := 0, pos := "ordered.go:240", after := #[{ on := 2, ground := Go.Ground.data }], guard := none }) (v := ?vv18_3_38) rfl (by kernel_rfl) (by kernel_rfl) (by kernel_rfl) (fun _ _ _ h => h) (Or.inl ⟨by rfl, ?hy18_3_38⟩) hHeld ?re18_3_38
    case hy18_3_38 => (intro w hSw; (try dsimp only at hSw); go_simp; try with_reducible rfl)
    try simp only [Act.put, List.setIfInBounds_toArray, List.set_cons_zero, List.set_cons_succ]
    refine wpAnyH_take (i := 5) (oi := { dst := some 179, op := Go.Op.fieldAddr 35 (Go.Operand.tmp 5) 1, type := 0, pos := "ordered.go:240", after := #[], guard := none }) (v := ?vv18_5_39) rfl (by kernel_rfl) (by kernel_rfl) (by kernel_rfl) (fun _ _ _ h => h) (Or.inl ⟨by rfl, ?hy18_5_39⟩) hHeld ?re18_5_39
    case hy18_5_39 => (intro w hSw; (try dsimp only at hSw); go_simp; try with_reducible rfl)
    try simp only [Act.put, List.setIfInBounds_toArray, List.set_cons_zero, List.set_cons_succ]
    refine wpAnyH_take (i := 6) (oi := { dst := some 180, op := Go.Op.load 3 (Go.Operand.tmp 179), type := 3, pos := "ordered.go:240", after := #[{ on := 5, ground := Go.Ground.data }], guard := none }) (v := ?vv18_6_40) rfl (by kernel_rfl) (by kernel_rfl) (by kernel_rfl) (fun _ _ _ h => h) (Or.inl ⟨by rfl, ?hy18_6_40⟩) hHeld ?re18_6_40
    case hy18_6_40 => (intro w hSw; (try dsimp only at hSw); go_simp; try with_reducible rfl)
    try simp only [Act.put, List.setIfInBounds_toArray, List.set_cons_zero, List.set_cons_succ]
    refine wpAnyH_take (i := 7) (oi := { dst := some 181, op := Go.Op.binOp Go.BinOp.add 3 (Go.Operand.tmp 180) (Go.Operand.const (Go.Value.int Go.IntKind.i64 1)) 3, type := 3, pos := "ordered.go:240", after := #[{ on := 6, ground := Go.Ground.data }], guard := none }) (v := ?vv18_7_41) rfl (by kernel_rfl) (by kernel_rfl) (by kernel_rfl) (fun _ _ _ h => h) (Or.inl ⟨by rfl, ?hy18_7_41⟩) hHeld ?re18_7_41
    case hy18_7_41 => (intro w hSw; (try dsimp only at hSw); go_simp; try with_reducible rfl)
    try simp only [Act.put, List.setIfInBounds_toArray, List.set_cons_zero, List.set_cons_succ]
    refine wpAnyH_take (i := 8) (oi := { dst := some 182, op := Go.Op.move (Go.Operand.tmp 10), type := 82, pos := "ordered.go:240", after := #[], guard := none }) (v := ?vv18_8_42) rfl (by kernel_rfl) (by kernel_rfl) (by kernel_rfl) (fun _ _ _ h => h) (Or.inl ⟨by rfl, ?hy18_8_42⟩) hHeld ?re18_8_42
    case hy18_8_42 => (intro w hSw; (try dsimp only at hSw); go_simp; try with_reducible rfl)
    try simp only [Act.put, List.setIfInBounds_toArray, List.set_cons_zero, List.set_cons_succ]
    refine wpAnyH_ready (rs := [4]) (by kernel_rfl) (by simp) ?_
    refine AllReadyH.cons (o := { dst := some 178, op := Go.Op.load 83 (Go.Operand.tmp 177), type := 83, pos := "ordered.go:240", after := #[{ on := 3, ground := Go.Ground.data }], guard := none }) rfl (fun K hK => ?_) AllReadyH.nil
    go_simp
    clear hHeld
    refine hK.out _ _ (s1) (fun hHeld => ?_)
    clear hK K
    try simp only [Act.put, List.setIfInBounds_toArray, List.set_cons_zero, List.set_cons_succ]
    refine wpAnyH_ready (rs := [9]) (by kernel_rfl) (by simp) ?_
    refine AllReadyH.cons (o := { dst := some 183, op := Go.Op.call { callee := Go.Callee.value (Go.Operand.func 48), args := #[Go.Operand.tmp 178, Go.Operand.tmp 181, Go.Operand.tmp 182], argTypes := #[83, 3, 82] }, type := 83, pos := "ordered.go:240", after := #[{ on := 4, ground := Go.Ground.data }, { on := 7, ground := Go.Ground.data }, { on := 8, ground := Go.Ground.data }], guard := none }) rfl (fun K hK => ?_) AllReadyH.nil
    go_simp
    refine hCl.mono ?_
    rintro e U4 ⟨g, cap, rfl, row4, k4, hg4⟩
    have hm4 := k4.at hm3 (by simp; exact q1)
    have t1 : U4.cell? ⟨B, 1, none⟩ = some (.int .i64 L1.length) := by rw [cell_of (k4.at zB3 (by simp; omega))]; rfl
    have t2 : U4.cell? ⟨mb, 1, none⟩ = some (.slice (some ⟨lb, 0, none⟩) LL lc) := by rw [cell_of hm4]; rfl
    have t3 : U4.frozen? ⟨mb, 1, none⟩ = false := frozen_of hm4
    have t4 : Hid ((U4.setCell ⟨mb, 1, none⟩ (.slice (some ⟨g, 0, none⟩) (LL + 1) cap)).cell? ⟨B, 1, none⟩ = some (.int .i64 L1.length)) := by (show _ = _; rw [cell_of ((Below.heap_setCell _ _ _ _ (by simp; omega)).trans (k4.at zB3 (by simp; omega)))]; rfl)
    clear hHeld
    refine hK.out _ _ (t1) (fun hHeld => ?_)
    clear hK K
    try simp only [Act.put, List.setIfInBounds_toArray, List.set_cons_zero, List.set_cons_succ]
    refine wpAnyH_take (i := 10) (oi := { dst := some 184, op := Go.Op.nilCheck (Go.Operand.tmp 174), type := 0, pos := "ordered.go:240", after := #[{ on := 0, ground := Go.Ground.data }, { on := 0, ground := Go.Ground.phase }, { on := 1, ground := Go.Ground.phase }, { on := 2, ground := Go.Ground.phase }, { on := 3, ground := Go.Ground.phase }, { on := 4, ground := Go.Ground.phase }, { on := 5, ground := Go.Ground.phase }, { on := 6, ground := Go.Ground.phase }, { on := 7, ground := Go.Ground.phase }, { on := 8, ground := Go.Ground.phase }, { on := 9, ground := Go.Ground.phase }], guard := none }) (v := ?vv18_10_43) rfl (by kernel_rfl) (by kernel_rfl) (by kernel_rfl) (fun _ _ _ h => h) (Or.inl ⟨by rfl, ?hy18_10_43⟩) hHeld ?re18_10_43
    case hy18_10_43 => (intro w hSw; (try dsimp only at hSw); go_simp; try with_reducible rfl)
    try simp only [Act.put, List.setIfInBounds_toArray, List.set_cons_zero, List.set_cons_succ]
    refine wpAnyH_take (i := 11) (oi := { dst := some 185, op := Go.Op.fieldAddr 85 (Go.Operand.tmp 184) 1, type := 0, pos := "ordered.go:240", after := #[{ on := 10, ground := Go.Ground.data }, { on := 0, ground := Go.Ground.phase }, { on := 1, ground := Go.Ground.phase }, { on := 2, ground := Go.Ground.phase }, { on := 3, ground := Go.Ground.phase }, { on := 4, ground := Go.Ground.phase }, { on := 5, ground := Go.Ground.phase }, { on := 6, ground := Go.Ground.phase }, { on := 7, ground := Go.Ground.phase }, { on := 8, ground := Go.Ground.phase }, { on := 9, ground := Go.Ground.phase }], guard := none }) (v := ?vv18_11_44) rfl (by kernel_rfl) (by kernel_rfl) (by kernel_rfl) (fun _ _ _ h => h) (Or.inl ⟨by rfl, ?hy18_11_44⟩) hHeld ?re18_11_44
    case hy18_11_44 => (intro w hSw; (try dsimp only at hSw); go_simp; try with_reducible rfl)
    try simp only [Act.put, List.setIfInBounds_toArray, List.set_cons_zero, List.set_cons_succ]
    refine wpAnyH_ready (rs := [12]) (by kernel_rfl) (by simp) ?_
    refine AllReadyH.cons (o := { dst := none, op := Go.Op.store 83 (Go.Operand.tmp 185) (Go.Operand.tmp 183), type := 0, pos := "ordered.go:240", after := #[{ on := 11, ground := Go.Ground.data }, { on := 9, ground := Go.Ground.data }, { on := 9, ground := Go.Ground.chain }, { on := 0, ground := Go.Ground.phase }, { on := 1, ground := Go.Ground.phase }, { on := 2, ground := Go.Ground.phase }, { on := 3, ground := Go.Ground.phase }, { on := 4, ground := Go.Ground.phase }, { on := 5, ground := Go.Ground.phase }, { on := 6, ground := Go.Ground.phase }, { on := 7, ground := Go.Ground.phase }, { on := 8, ground := Go.Ground.phase }, { on := 9, ground := Go.Ground.phase }], guard := none }) rfl (fun K hK => ?_) AllReadyH.nil
    go_simp
    clear hHeld
    refine hK.out _ _ (t4.out) (fun hHeld => ?_)
    clear hK K
    try simp only [Act.put, List.setIfInBounds_toArray, List.set_cons_zero, List.set_cons_succ]
    refine wpAnyH_done (by kernel_rfl) ?_ _
    clear hHeld
    generalize hD : U4.setCell ⟨mb, 1, none⟩ (.slice (some ⟨g, 0, none⟩) (LL + 1) cap) = U5
    have k5 : Kp [lb, mb] U3 U5 := by rw [← hD]; exact ((Kp.refl _ _).drew.trans (k4.mono (by simp))).setCell (by simp) _
    have hm5 : U5.heap[mb]? = some (.cells (MC (.slice (some ⟨g, 0, none⟩) (LL + 1) cap) near (sh + 1)) 85) := by rw [← hD]; exact heap_setCell_same' _ hm4
    have hgm : g ≠ mb := by
      obtain ⟨_, e, _⟩ := ownsRow_blk row4
      exact ne_kind e hm4 (by decide)
    have row5 : U5.ownsRow N 82 1 (.slice (some ⟨g, 0, none⟩) (LL + 1) cap) (LL + 1) (((L1 ++ lf :: L2).map fun l : Leaf => P l.b).take l' ++ P rb :: ((L1 ++ lf :: L2).map fun l : Leaf => P l.b).drop l') := by
      rw [← hD]
      exact ownsRow_same row4 (fun x hx => by simp [Value.ownBlock] at hx; subst hx; exact Below.heap_setCell _ _ _ _ (by simpa using hgm))
    clear hD t1 t2 t3 t4 s1 s2 row4 hm4 hCl
    have Row5 : Hid (U5.ownsRow N 82 1 (.slice (some ⟨g, 0, none⟩) (LL + 1) cap) (LL + 1) (((L1 ++ lf :: L2).map fun l : Leaf => P l.b).take l' ++ P rb :: ((L1 ++ lf :: L2).map fun l : Leaf => P l.b).drop l')) := row5
    clear row5
    have zB5 := k5.at zB3 (by simp; omega)
    have zK5 := k5.at zK3 (by simp; omega)
    have bl1 := ok1.blk
    have bl2 := ok2.blk
    obtain ⟨_, bk1, _⟩ := ownsRow_blk ok1.keys
    obtain ⟨_, bk2, _⟩ := ownsRow_blk ok2.keys
    obtain ⟨_, bv1, _⟩ := ownsRow_blk ok1.vals
    obtain ⟨_, bv2, _⟩ := ownsRow_blk ok2.vals
    have hlb3 : ∃ c, U3.heap[lb]? = some (.cells c 82) := by obtain ⟨c, e, _⟩ := ownsRow_blk row3; exact ⟨c, e⟩
    obtain ⟨lb3, hlb3⟩ := hlb3
    have keep5 : ∀ (x : Nat) (c : Array Value) (t : TypeId), U3.heap[x]? = some (.cells c t) → t ≠ 82 → t ≠ 85 → U5.heap[x]? = U3.heap[x]? := fun x c t hx h1 h2 => k5.block x (lt_of hx) (by simp; exact ⟨ne_kind hx hlb3 h1, ne_kind hx hm3 h2⟩)
    have ok15 : LeafOk N U5 l1 := ok1.same (keep5 _ _ _ bl1 (by decide) (by decide)) (keep5 _ _ _ bk1 (by decide) (by decide)) (keep5 _ _ _ bv1 (by decide) (by decide))
    have ok25 : LeafOk N U5 l2 := ok2.same (keep5 _ _ _ bl2 (by decide) (by decide)) (keep5 _ _ _ bk2 (by decide) (by decide)) (keep5 _ _ _ bv2 (by decide) (by decide))
    have kW5 : Kp [lf.kb, lf.vb, lf.b, lb, mb] W1 U5 := (kW3.mono (by simp)).trans (k5.mono (by simp))
    clear keep5 bl1 bl2 bk1 bk2 bv1 bv2 hlb3 ok1 ok2 k4 row3 zB3 zK3 hm3 k5
    have s1 : U5.cell? ⟨B, 2, none⟩ = some (.int .i64 i) := by rw [cell_of zB5]; rfl
    have fB5 : ∀ o, U5.frozen? ⟨B, o, none⟩ = false := fun o => frozen_of zB5
    go_upto_if 189 with fail
    go_cut [8] (fun s8 wx => ∃ (b : Bool) (j : Nat), s8 = P (cond b l1 l2).b ∧ Kp [B] U5 wx ∧ wx.heap[B]? = some (.cells (CC mb L1.length j sh) 35) ∧ ((b = true ∧ j = i ∧ i ≤ 64) ∨ (b = false ∧ i = j + 64)))
    case first => as_aux_lemma =>
      by_cases h64 : 64 < i
      · obtain ⟨i6, hi6⟩ : ∃ i6, i6 = i - 64 := ⟨_, rfl⟩
        have hw6 : IntKind.i64.wrap ((i : Int) - 64) = (i6 : Int) := by rw [IntKind.wrap_i64]; omega
        have h64' : (64 : Int) < (i : Int) := by omega
        have Hi6 : Hid (i = i6 + 64) := show i = i6 + 64 by omega
        clear hi6
        go_upto_region 20 with fail
        refine wp_region_held_drew (S := (fun _ => True)) (by kernel_rfl) (trivial) (fun hHeld => ?_)
        refine wpAnyH_take (i := 0) (oi := { dst := some 190, op := Go.Op.move (Go.Operand.tmp 10), type := 82, pos := "ordered.go:242", after := #[], guard := none }) (v := ?vv20_0_45) rfl (by kernel_rfl) (by kernel_rfl) (by kernel_rfl) (fun _ _ _ h => h) (Or.inl ⟨by rfl, ?hy20_0_45⟩) hHeld ?re20_0_45
        case hy20_0_45 => (intro w hSw; (try dsimp only at hSw); go_simp; try with_reducible rfl)
        try simp only [Act.put, List.setIfInBounds_toArray, List.set_cons_zero, List.set_cons_succ]
        refine wpAnyH_take (i := 1) (oi := { dst := some 191, op := Go.Op.fieldAddr 35 (Go.Operand.tmp 5) 2, type := 0, pos := "ordered.go:242", after := #[{ on := 5, ground := Go.Ground.gcOnly Go.Departure.lateStores }], guard := none }) (v := ?vv20_1_46) rfl (by kernel_rfl) (by kernel_rfl) (by kernel_rfl) (fun _ _ _ h => h) (Or.inl ⟨by rfl, ?hy20_1_46⟩) hHeld ?re20_1_46
        case hy20_1_46 => (intro w hSw; (try dsimp only at hSw); go_simp; try with_reducible rfl)
        try simp only [Act.put, List.setIfInBounds_toArray, List.set_cons_zero, List.set_cons_succ]
        refine wpAnyH_take (i := 3) (oi := { dst := some 193, op := Go.Op.move (Go.Operand.tmp 9), type := 3, pos := "ordered.go:242", after := #[{ on := 5, ground := Go.Ground.gcOnly Go.Departure.lateStores }], guard := none }) (v := ?vv20_3_47) rfl (by kernel_rfl) (by kernel_rfl) (by kernel_rfl) (fun _ _ _ h => h) (Or.inl ⟨by rfl, ?hy20_3_47⟩) hHeld ?re20_3_47
        case hy20_3_47 => (intro w hSw; (try dsimp only at hSw); go_simp; try with_reducible rfl)
        try simp only [Act.put, List.setIfInBounds_toArray, List.set_cons_zero, List.set_cons_succ]
        refine wpAnyH_take (i := 5) (oi := { dst := some 8, op := Go.Op.assign (Go.Operand.tmp 190), type := 82, pos := "ordered.go:242", after := #[{ on := 0, ground := Go.Ground.data }, { on := 0, ground := Go.Ground.phase }, { on := 1, ground := Go.Ground.textOnly Go.Departure.lateStores }, { on := 2, ground := Go.Ground.textOnly Go.Departure.lateStores }, { on := 3, ground := Go.Ground.textOnly Go.Departure.lateStores }, { on := 4, ground := Go.Ground.textOnly Go.Departure.lateStores }], guard := none }) (v := ?vv20_5_48) rfl (by kernel_rfl) (by kernel_rfl) (by kernel_rfl) (fun _ _ _ h => h) (Or.inl ⟨by rfl, ?hy20_5_48⟩) hHeld ?re20_5_48
        case hy20_5_48 => (intro w hSw; (try dsimp only at hSw); go_simp; try with_reducible rfl)
        try simp only [Act.put, List.setIfInBounds_toArray, List.set_cons_zero, List.set_cons_succ]
        refine wpAnyH_ready (rs := [2]) (by kernel_rfl) (by simp) ?_
        refine AllReadyH.cons (o := { dst := some 192, op := Go.Op.load 3 (Go.Operand.tmp 191), type := 3, pos := "ordered.go:242", after := #[{ on := 1, ground := Go.Ground.data }, { on := 5, ground := Go.Ground.gcOnly Go.Departure.lateStores }], guard := none }) rfl (fun K hK => ?_) AllReadyH.nil
        go_simp
        clear hHeld
        refine hK.out _ _ (trivial) (fun hHeld => ?_)
        clear hK K
        try simp only [Act.put, List.setIfInBounds_toArray, List.set_cons_zero, List.set_cons_succ]
        refine wpAnyH_take (i := 4) (oi := { dst := some 194, op := Go.Op.binOp Go.BinOp.sub 3 (Go.Operand.tmp 192) (Go.Operand.tmp 193) 3, type := 3, pos := "ordered.go:242", after := #[{ on := 2, ground := Go.Ground.data }, { on := 3, ground := Go.Ground.data }, { on := 5, ground := Go.Ground.gcOnly Go.Departure.lateStores }], guard := none }) (v := ?vv20_4_49) rfl (by kernel_rfl) (by kernel_rfl) (by kernel_rfl) (fun _ _ _ h => h) (Or.inl ⟨by rfl, ?hy20_4_49⟩) hHeld ?re20_4_49
        case hy20_4_49 => (intro w hSw; (try dsimp only at hSw); go_simp; try with_reducible rfl)
        try simp only [Act.put, List.setIfInBounds_toArray, List.set_cons_zero, List.set_cons_succ]
        refine wpAnyH_take (i := 6) (oi := { dst := some 195, op := Go.Op.fieldAddr 35 (Go.Operand.tmp 5) 2, type := 0, pos := "ordered.go:242", after := #[{ on := 0, ground := Go.Ground.phase }, { on := 1, ground := Go.Ground.phase }, { on := 2, ground := Go.Ground.phase }, { on := 3, ground := Go.Ground.phase }, { on := 4, ground := Go.Ground.phase }, { on := 5, ground := Go.Ground.phase }], guard := none }) (v := ?vv20_6_50) rfl (by kernel_rfl) (by kernel_rfl) (by kernel_rfl) (fun _ _ _ h => h) (Or.inl ⟨by rfl, ?hy20_6_50⟩) hHeld ?re20_6_50
        case hy20_6_50 => (intro w hSw; (try dsimp only at hSw); go_simp; try with_reducible rfl)
        try simp only [Act.put, List.setIfInBounds_toArray, List.set_cons_zero, List.set_cons_succ]
        refine wpAnyH_ready (rs := [7]) (by kernel_rfl) (by simp) ?_
        refine AllReadyH.cons (o := { dst := none, op := Go.Op.store 3 (Go.Operand.tmp 195) (Go.Operand.tmp 194), type := 0, pos := "ordered.go:242", after := #[{ on := 6, ground := Go.Ground.data }, { on := 4, ground := Go.Ground.data }, { on := 5, ground := Go.Ground.chain }, { on := 0, ground := Go.Ground.phase }, { on := 1, ground := Go.Ground.phase }, { on := 2, ground := Go.Ground.phase }, { on := 3, ground := Go.Ground.phase }, { on := 4, ground := Go.Ground.phase }, { on := 5, ground := Go.Ground.phase }], guard := none }) rfl (fun K hK => ?_) AllReadyH.nil
        go_simp
        clear hHeld
        refine hK.out _ _ (trivial) (fun hHeld => ?_)
        clear hK K
        try simp only [Act.put, List.setIfInBounds_toArray, List.set_cons_zero, List.set_cons_succ]
        refine wpAnyH_done (by kernel_rfl) ?_ _
        clear hHeld
        go_wp2_with fail
        go_meet
        case rel => exact ⟨false, i6, (by show P rb = P l2.b; rw [E2b.out.1]), (((Kp.refl _ _).setCell (by simp) _)).drew, heap_setCell_same' _ zB5, .inr ⟨rfl, Hi6.out⟩⟩
      · have h64' : ¬ (64 : Int) < (i : Int) := by omega
        go_wp2_with fail
        go_meet
        case rel => exact ⟨true, i, (by show P lf.b = P l1.b; rw [E1b.out.1]), Kp.refl _ _, zB5, .inl ⟨rfl, rfl, by omega⟩⟩
    case rest => as_aux_lemma =>
    rename World => U6
    obtain ⟨b, j, rfl, k6, zB6, hbj⟩ := hcut
    have Hbj : Hid ((b = true ∧ j = i ∧ i ≤ 64) ∨ (b = false ∧ i = j + 64)) := hbj
    have jle : j ≤ 64 := by have := HF.out; omega
    clear hbj
    have sW1 := hW1s
    have sU5 := kW5.size
    have zK6 := k6.at zK5 (by simp)
    have hm6 := k6.at hm5 (by simp; omega)
    have lgkU : gk < U5.heap.size := by have := E2b.out.2.1; obtain ⟨_, e, _⟩ := ownsRow_blk ok25.keys; rw [this] at e; exact lt_of e
    have lgvU : gv < U5.heap.size := by have := E2b.out.2.2; obtain ⟨_, e, _⟩ := ownsRow_blk ok25.vals; rw [this] at e; exact lt_of e
    have keep6 : ∀ (x : Nat) (c : Array Value) (t : TypeId), U5.heap[x]? = some (.cells c t) → t ≠ 35 → U6.heap[x]? = U5.heap[x]? := fun x c t hx h1 => k6.block x (lt_of hx) (by simp; exact ne_kind hx zB5 h1)
    have mv6 : ∀ q : Leaf, LeafOk N U5 q → LeafOk N U6 q := fun q h => by
      obtain ⟨_, e1, _⟩ := ownsRow_blk h.keys
      obtain ⟨_, e2, _⟩ := ownsRow_blk h.vals
      exact h.same (keep6 _ _ _ h.blk (by decide)) (keep6 _ _ _ e1 (by decide)) (keep6 _ _ _ e2 (by decide))
    have ok16 := mv6 _ ok15
    have ok26 := mv6 _ ok25
    have Row6 : Hid (U6.ownsRow N 82 1 (.slice (some ⟨g, 0, none⟩) (LL + 1) cap) (LL + 1) (((L1 ++ lf :: L2).map fun l : Leaf => P l.b).take l' ++ P rb :: ((L1 ++ lf :: L2).map fun l : Leaf => P l.b).drop l')) := by
      have h := Row5.out
      obtain ⟨_, e1, _⟩ := ownsRow_blk h
      exact ownsRow_same h (fun x hx => by simp [Value.ownBlock] at hx; subst hx; exact keep6 _ _ _ e1 (by decide))
    have sU6 := k6.size
    have kW6 : Kp [lf.kb, lf.vb, lf.b, lb, mb, B] W1 U6 := (kW5.mono (by simp)).trans (k6.mono (by simp))
    obtain ⟨tl, htl⟩ : ∃ tl, tl = cond b l1 l2 := ⟨_, rfl⟩
    rw [← htl]
    have okT : LeafOk N U6 tl := by rw [htl]; cases b; exact ok26; exact ok16
    have nT : tl.ks.length = 64 := by rw [htl]; cases b; exact Hn2.out; exact Hn1.out
    have neT : tl.kb ≠ B + 1 := by
      rw [htl]
      cases b
      · show l2.kb ≠ B + 1; rw [E2b.out.2.1]; omega
      · show l1.kb ≠ B + 1; rw [E1b.out.2.1]; omega
    have Htl : Hid (tl = cond b l1 l2) := htl
    clear htl mv6 keep6 ok15 ok25 zK5 zB5 hm5 Row5 k6 kW5 s1 fB5
    have hlfT := okT.blk
    have keyT := okT.keys
    have valT := okT.vals
    have bT := okT.base
    rw [nT] at hlfT keyT valT
    obtain ⟨_, eT1, _⟩ := ownsRow_blk keyT
    obtain ⟨_, eT2, _⟩ := ownsRow_blk valT
    have r5 : tl.b ≠ tl.kb := ne_kind hlfT eT1 (by decide)
    have r6 : tl.b ≠ tl.vb := ne_kind hlfT eT2 (by decide)
    have r7 : tl.kb ≠ tl.vb := ne_kind eT1 eT2 (by decide)
    have r8 : tl.b ≠ B := ne_kind hlfT zB6 (by decide)
    have r9 : tl.kb ≠ B := ne_kind eT1 zB6 (by decide)
    have r10 : tl.vb ≠ B := ne_kind eT2 zB6 (by decide)
    have r11 : tl.b ≠ B + 1 := ne_kind hlfT zK6 (by decide)
    have r12 : tl.vb ≠ B + 1 := ne_kind eT2 zK6 (by decide)
    have lT1 := lt_of eT1
    have lT2 := lt_of eT2
    have lT0 := lt_of hlfT
    clear eT1 eT2
    have HnT : Hid (tl.ks.length = 64) := nT
    clear nT okT
    have KT : ∀ w', Kp [tl.kb, tl.b, tl.vb] U6 w' → w'.cell? ⟨B, 2, none⟩ = some (.int .i64 j) ∧ w'.cell? ⟨B + 1, 0, none⟩ = some (.int .u8 1) ∧ w'.cell? ⟨B + 1, 1, none⟩ = some (.int .i64 k) ∧ w'.cell? ⟨B + 1, 2, none⟩ = some (.string ⟨#[]⟩) := by
      intro w' h
      have e0 := h.at zB6 (by simp; exact ⟨r9.symm, r8.symm, r10.symm⟩)
      have e1 := h.at zK6 (by simp; exact ⟨neT.symm, r11.symm, r12.symm⟩)
      exact ⟨by rw [cell_of e0]; rfl, by rw [cell_of e1]; rfl, by rw [cell_of e1]; rfl, by rw [cell_of e1]; rfl⟩
    have hN6 : N ≤ U6.heap.size := by omega
    have hIT := insK N tl.kb tl.kc j 64 k (flat tl.ks) U6.drew keyT (flat_one _) jle (by omega) hN6
    have d3 : U6.cell? ⟨tl.b, 0, none⟩ = some (.slice (some ⟨tl.kb, 0, none⟩) 64 tl.kc) := by rw [cell_of hlfT]; rfl
    go_upto_region 21 with fail
    refine wp_region_held_drew (S := (fun w' => w'.cell? ⟨B, 2, none⟩ = some (.int .i64 j) ∧ w'.cell? ⟨B + 1, 0, none⟩ = some (.int .u8 1) ∧ w'.cell? ⟨B + 1, 1, none⟩ = some (.int .i64 k) ∧ w'.cell? ⟨B + 1, 2, none⟩ = some (.string ⟨#[]⟩))) (by kernel_rfl) (KT _ (Kp.refl _ _).drew) (fun hHeld => ?_)
    refine wpAnyH_take (i := 0) (oi := { dst := some 196, op := Go.Op.move (Go.Operand.tmp 8), type := 82, pos := "ordered.go:244", after := #[], guard := none }) (v := ?vv21_0_51) rfl (by kernel_rfl) (by kernel_rfl) (by kernel_rfl) (fun _ _ _ h => h) (Or.inl ⟨by rfl, ?hy21_0_51⟩) hHeld ?re21_0_51
    case hy21_0_51 => (intro w hSw; (try dsimp only at hSw); go_simp; try with_reducible rfl)
    try simp only [Act.put, List.setIfInBounds_toArray, List.set_cons_zero, List.set_cons_succ]
    refine wpAnyH_take (i := 1) (oi := { dst := some 197, op := Go.Op.move (Go.Operand.tmp 8), type := 82, pos := "ordered.go:244", after := #[], guard := none }) (v := ?vv21_1_52) rfl (by kernel_rfl) (by kernel_rfl) (by kernel_rfl) (fun _ _ _ h => h) (Or.inl ⟨by rfl, ?hy21_1_52⟩) hHeld ?re21_1_52
    case hy21_1_52 => (intro w hSw; (try dsimp only at hSw); go_simp; try with_reducible rfl)
    try simp only [Act.put, List.setIfInBounds_toArray, List.set_cons_zero, List.set_cons_succ]
    refine wpAnyH_take (i := 2) (oi := { dst := some 198, op := Go.Op.nilCheck (Go.Operand.tmp 197), type := 0, pos := "ordered.go:244", after := #[{ on := 1, ground := Go.Ground.data }], guard := none }) (v := ?vv21_2_53) rfl (by kernel_rfl) (by kernel_rfl) (by kernel_rfl) (fun _ _ _ h => h) (Or.inl ⟨by rfl, ?hy21_2_53⟩) hHeld ?re21_2_53
    case hy21_2_53 => (intro w hSw; (try dsimp only at hSw); go_simp; try with_reducible rfl)
    try simp only [Act.put, List.setIfInBounds_toArray, List.set_cons_zero, List.set_cons_succ]
    refine wpAnyH_take (i := 3) (oi := { dst := some 199, op := Go.Op.fieldAddr 81 (Go.Operand.tmp 198) 0, type := 0, pos := "ordered.go:244", after := #[{ on := 2, ground := Go.Ground.data }], guard := none }) (v := ?vv21_3_54) rfl (by kernel_rfl) (by kernel_rfl) (by kernel_rfl) (fun _ _ _ h => h) (Or.inl ⟨by rfl, ?hy21_3_54⟩) hHeld ?re21_3_54
    case hy21_3_54 => (intro w hSw; (try dsimp only at hSw); go_simp; try with_reducible rfl)
    try simp only [Act.put, List.setIfInBounds_toArray, List.set_cons_zero, List.set_cons_succ]
    refine wpAnyH_take (i := 5) (oi := { dst := some 201, op := Go.Op.fieldAddr 35 (Go.Operand.tmp 5) 2, type := 0, pos := "ordered.go:244", after := #[], guard := none }) (v := ?vv21_5_55) rfl (by kernel_rfl) (by kernel_rfl) (by kernel_rfl) (fun _ _ _ h => h) (Or.inl ⟨by rfl, ?hy21_5_55⟩) hHeld ?re21_5_55
    case hy21_5_55 => (intro w hSw; (try dsimp only at hSw); go_simp; try with_reducible rfl)
    try simp only [Act.put, List.setIfInBounds_toArray, List.set_cons_zero, List.set_cons_succ]
    refine wpAnyH_take (i := 6) (oi := { dst := some 202, op := Go.Op.load 3 (Go.Operand.tmp 201), type := 3, pos := "ordered.go:244", after := #[{ on := 5, ground := Go.Ground.data }], guard := none }) (v := ?vv21_6_56) rfl (by kernel_rfl) (by kernel_rfl) (by kernel_rfl) (fun _ _ _ h => h) (Or.inl ⟨by rfl, ?hy21_6_56⟩) hHeld ?re21_6_56
    case hy21_6_56 => (intro w hSw; (try dsimp only at hSw); go_simp; try with_reducible rfl)
    try simp only [Act.put, List.setIfInBounds_toArray, List.set_cons_zero, List.set_cons_succ]
    refine wpAnyH_take (i := 7) (oi := { dst := some 203, op := Go.Op.load 44 (Go.Operand.tmp 6), type := 44, pos := "ordered.go:244", after := #[], guard := none }) (v := ?vv21_7_57) rfl (by kernel_rfl) (by kernel_rfl) (by kernel_rfl) (fun _ _ _ h => h) (Or.inl ⟨by rfl, ?hy21_7_57⟩) hHeld ?re21_7_57
    case hy21_7_57 => (intro w hSw; (try dsimp only at hSw); go_simp; try with_reducible rfl)
    try simp only [Act.put, List.setIfInBounds_toArray, List.set_cons_zero, List.set_cons_succ]
    refine wpAnyH_ready (rs := [4]) (by kernel_rfl) (by simp) ?_
    refine AllReadyH.cons (o := { dst := some 200, op := Go.Op.load 70 (Go.Operand.tmp 199), type := 70, pos := "ordered.go:244", after := #[{ on := 3, ground := Go.Ground.data }], guard := none }) rfl (fun K hK => ?_) AllReadyH.nil
    go_simp
    clear hHeld
    refine hK.out _ _ (KT _ (Kp.refl _ _).drew) (fun hHeld => ?_)
    clear hK K
    try simp only [Act.put, List.setIfInBounds_toArray, List.set_cons_zero, List.set_cons_succ]
    refine wpAnyH_ready (rs := [8]) (by kernel_rfl) (by simp) ?_
    refine AllReadyH.cons (o := { dst := some 204, op := Go.Op.call { callee := Go.Callee.value (Go.Operand.func 46), args := #[Go.Operand.tmp 200, Go.Operand.tmp 202, Go.Operand.tmp 203], argTypes := #[70, 3, 44] }, type := 70, pos := "ordered.go:244", after := #[{ on := 4, ground := Go.Ground.data }, { on := 6, ground := Go.Ground.data }, { on := 7, ground := Go.Ground.data }], guard := none }) rfl (fun K hK => ?_) AllReadyH.nil
    go_simp
    refine hIT.mono ?_
    rintro e U7 ⟨g1, c1, rfl, o7, k7', hg7⟩
    have k7 : Kp [tl.kb, tl.b, tl.vb] U6 U7 := (Kp.refl _ _).drew.trans (k7'.mono (by simp))
    have z7 := k7'.at hlfT (by simp; exact r5)
    have f7 : U7.frozen? ⟨tl.b, 0, none⟩ = false := frozen_of z7
    have d4 : U7.cell? ⟨tl.b, 0, none⟩ = some (.slice (some ⟨tl.kb, 0, none⟩) 64 tl.kc) := by rw [cell_of z7]; rfl
    clear d3
    clear hHeld
    refine hK.out _ _ (KT _ k7) (fun hHeld => ?_)
    clear hK K
    try simp only [Act.put, List.setIfInBounds_toArray, List.set_cons_zero, List.set_cons_succ]
    refine wpAnyH_take (i := 9) (oi := { dst := some 205, op := Go.Op.nilCheck (Go.Operand.tmp 196), type := 0, pos := "ordered.go:244", after := #[{ on := 0, ground := Go.Ground.data }, { on := 0, ground := Go.Ground.phase }, { on := 1, ground := Go.Ground.phase }, { on := 2, ground := Go.Ground.phase }, { on := 3, ground := Go.Ground.phase }, { on := 4, ground := Go.Ground.phase }, { on := 5, ground := Go.Ground.phase }, { on := 6, ground := Go.Ground.phase }, { on := 7, ground := Go.Ground.phase }, { on := 8, ground := Go.Ground.phase }], guard := none }) (v := ?vv21_9_58) rfl (by kernel_rfl) (by kernel_rfl) (by kernel_rfl) (fun _ _ _ h => h) (Or.inl ⟨by rfl, ?hy21_9_58⟩) hHeld ?re21_9_58
    case hy21_9_58 => (intro w hSw; (try dsimp only at hSw); go_simp; try with_reducible rfl)
    try simp only [Act.put, List.setIfInBounds_toArray, List.set_cons_zero, List.set_cons_succ]
    refine wpAnyH_take (i := 10) (oi := { dst := some 206, op := Go.Op.fieldAddr 81 (Go.Operand.tmp 205) 0, type := 0, pos := "ordered.go:244", after := #[{ on := 9, ground := Go.Ground.data }, { on := 0, ground := Go.Ground.phase }, { on := 1, ground := Go.Ground.phase }, { on := 2, ground := Go.Ground.phase }, { on := 3, ground := Go.Ground.phase }, { on := 4, ground := Go.Ground.phase }, { on := 5, ground := Go.Ground.phase }, { on := 6, ground := Go.Ground.phase }, { on := 7, ground := Go.Ground.phase }, { on := 8, ground := Go.Ground.phase }], guard := none }) (v := ?vv21_10_59) rfl (by kernel_rfl) (by kernel_rfl) (by kernel_rfl) (fun _ _ _ h => h) (Or.inl ⟨by rfl, ?hy21_10_59⟩) hHeld ?re21_10_59
    case hy21_10_59 => (intro w hSw; (try dsimp only at hSw); go_simp; try with_reducible rfl)
    try simp only [Act.put, List.setIfInBounds_toArray, List.set_cons_zero, List.set_cons_succ]
    refine wpAnyH_ready (rs := [11]) (by kernel_rfl) (by simp) ?_
    refine AllReadyH.cons (o := { dst := none, op := Go.Op.store 70 (Go.Operand.tmp 206) (Go.Operand.tmp 204), type := 0, pos := "ordered.go:244", after := #[{ on := 10, ground := Go.Ground.data }, { on := 8, ground := Go.Ground.data }, { on := 8, ground := Go.Ground.chain }, { on := 0, ground := Go.Ground.phase }, { on := 1, ground := Go.Ground.phase }, { on := 2, ground := Go.Ground.phase }, { on := 3, ground := Go.Ground.phase }, { on := 4, ground := Go.Ground.phase }, { on := 5, ground := Go.Ground.phase }, { on := 6, ground := Go.Ground.phase }, { on := 7, ground := Go.Ground.phase }, { on := 8, ground := Go.Ground.phase }], guard := none }) rfl (fun K hK => ?_) AllReadyH.nil
    go_simp
    clear hHeld
    refine hK.out _ _ (KT _ (k7.setCell (by simp) _)) (fun hHeld => ?_)
    clear hK K
    try simp only [Act.put, List.setIfInBounds_toArray, List.set_cons_zero, List.set_cons_succ]
    refine wpAnyH_done (by kernel_rfl) ?_ _
    clear hHeld
    generalize hD : U7.setCell ⟨tl.b, 0, none⟩ (.slice (some ⟨g1, 0, none⟩) 65 c1) = U8
    have k8 : Kp [tl.kb, tl.b, tl.vb] U6 U8 := by rw [← hD]; exact k7.setCell (by simp) _
    have z8 : U8.heap[tl.b]? = some (.cells #[.slice (some ⟨g1, 0, none⟩) 65 c1, .slice (some ⟨tl.vb, 0, none⟩) 64 tl.vc] 81) := by rw [← hD]; exact heap_setCell_same' _ z7
    have e8 : ∀ x, x ≠ tl.b → U8.heap[x]? = U7.heap[x]? := by intro x hx; rw [← hD]; exact Below.heap_setCell _ _ _ _ (by simpa using hx)
    have s8 : U8.heap.size = U7.heap.size := by rw [← hD]; simp
    clear hD d4 f7 z7
    have lg1 : g1 < U7.heap.size := by obtain ⟨_, e, _⟩ := ownsRow_blk o7; exact lt_of e
    have hgl : g1 ≠ tl.b ∧ g1 ≠ tl.vb ∧ N ≤ g1 ∧ (g1 = tl.kb ∨ U6.heap.size ≤ g1) := by
      obtain ⟨cu, hcu, hNg, _⟩ := ownsRow_blk o7
      have e : U6.drew.heap.size = U6.heap.size := rfl
      rcases hg7 with h | h
      · subst h; exact ⟨r5.symm, r7, hNg, .inl rfl⟩
      · exact ⟨by omega, by omega, hNg, .inr (by omega)⟩
    have val8 : U8.ownsRow N 49 1 (.slice (some ⟨tl.vb, 0, none⟩) 64 tl.vc) 64 (tl.vs.map P) := ownsRow_same valT (fun x hx => by
      simp [Value.ownBlock] at hx; subst hx
      rw [e8 _ r6.symm, k7'.block _ lT2 (by simp; exact r7.symm)]
      rfl)
    have hJT := insV N tl.vb tl.vc j v 64 (tl.vs.map P) U8.drew val8 (ptrs_one _) jle (by omega) (Nat.le_trans hN6 k8.size)
    have d5 : U8.cell? ⟨tl.b, 1, none⟩ = some (.slice (some ⟨tl.vb, 0, none⟩) 64 tl.vc) := by rw [cell_of z8]; rfl
    go_upto_region 22 with fail
    refine wp_region_held_drew (S := (fun w' => w'.cell? ⟨B, 2, none⟩ = some (.int .i64 j) ∧ w'.cell? ⟨B + 1, 0, none⟩ = some (.int .u8 1) ∧ w'.cell? ⟨B + 1, 1, none⟩ = some (.int .i64 k) ∧ w'.cell? ⟨B + 1, 2, none⟩ = some (.string ⟨#[]⟩))) (by kernel_rfl) (KT _ k8.drew) (fun hHeld => ?_)
    refine wpAnyH_take (i := 0) (oi := { dst := some 207, op := Go.Op.move (Go.Operand.tmp 8), type := 82, pos := "ordered.go:245", after := #[], guard := none }) (v := ?vv22_0_60) rfl (by kernel_rfl) (by kernel_rfl) (by kernel_rfl) (fun _ _ _ h => h) (Or.inl ⟨by rfl, ?hy22_0_60⟩) hHeld ?re22_0_60
    case hy22_0_60 => (intro w hSw; (try dsimp only at hSw); go_simp; try with_reducible rfl)
    try simp only [Act.put, List.setIfInBounds_toArray, List.set_cons_zero, List.set_cons_succ]
    refine wpAnyH_take (i := 1) (oi := { dst := some 208, op := Go.Op.move (Go.Operand.tmp 8), type := 82, pos := "ordered.go:245", after := #[], guard := none }) (v := ?vv22_1_61) rfl (by kernel_rfl) (by kernel_rfl) (by kernel_rfl) (fun _ _ _ h => h) (Or.inl ⟨by rfl, ?hy22_1_61⟩) hHeld ?re22_1_61
    case hy22_1_61 => (intro w hSw; (try dsimp only at hSw); go_simp; try with_reducible rfl)
    try simp only [Act.put, List.setIfInBounds_toArray, List.set_cons_zero, List.set_cons_succ]
    refine wpAnyH_take (i := 2) (oi := { dst := some 209, op := Go.Op.nilCheck (Go.Operand.tmp 208), type := 0, pos := "ordered.go:245", after := #[{ on := 1, ground := Go.Ground.data }], guard := none }) (v := ?vv22_2_62) rfl (by kernel_rfl) (by kernel_rfl) (by kernel_rfl) (fun _ _ _ h => h) (Or.inl ⟨by rfl, ?hy22_2_62⟩) hHeld ?re22_2_62
    case hy22_2_62 => (intro w hSw; (try dsimp only at hSw); go_simp; try with_reducible rfl)
    try simp only [Act.put, List.setIfInBounds_toArray, List.set_cons_zero, List.set_cons_succ]
    refine wpAnyH_take (i := 3) (oi := { dst := some 210, op := Go.Op.fieldAddr 81 (Go.Operand.tmp 209) 1, type := 0, pos := "ordered.go:245", after := #[{ on := 2, ground := Go.Ground.data }], guard := none }) (v := ?vv22_3_63) rfl (by kernel_rfl) (by kernel_rfl) (by kernel_rfl) (fun _ _ _ h => h) (Or.inl ⟨by rfl, ?hy22_3_63⟩) hHeld ?re22_3_63
    case hy22_3_63 => (intro w hSw; (try dsimp only at hSw); go_simp; try with_reducible rfl)
    try simp only [Act.put, List.setIfInBounds_toArray, List.set_cons_zero, List.set_cons_succ]
    refine wpAnyH_take (i := 5) (oi := { dst := some 212, op := Go.Op.fieldAddr 35 (Go.Operand.tmp 5) 2, type := 0, pos := "ordered.go:245", after := #[], guard := none }) (v := ?vv22_5_64) rfl (by kernel_rfl) (by kernel_rfl) (by kernel_rfl) (fun _ _ _ h => h) (Or.inl ⟨by rfl, ?hy22_5_64⟩) hHeld ?re22_5_64
    case hy22_5_64 => (intro w hSw; (try dsimp only at hSw); go_simp; try with_reducible rfl)
    try simp only [Act.put, List.setIfInBounds_toArray, List.set_cons_zero, List.set_cons_succ]
    refine wpAnyH_take (i := 6) (oi := { dst := some 213, op := Go.Op.load 3 (Go.Operand.tmp 212), type := 3, pos := "ordered.go:245", after := #[{ on := 5, ground := Go.Ground.data }], guard := none }) (v := ?vv22_6_65) rfl (by kernel_rfl) (by kernel_rfl) (by kernel_rfl) (fun _ _ _ h => h) (Or.inl ⟨by rfl, ?hy22_6_65⟩) hHeld ?re22_6_65
    case hy22_6_65 => (intro w hSw; (try dsimp only at hSw); go_simp; try with_reducible rfl)
    try simp only [Act.put, List.setIfInBounds_toArray, List.set_cons_zero, List.set_cons_succ]
    refine wpAnyH_take (i := 7) (oi := { dst := some 214, op := Go.Op.move (Go.Operand.tmp 3), type := 49, pos := "ordered.go:245", after := #[], guard := none }) (v := ?vv22_7_66) rfl (by kernel_rfl) (by kernel_rfl) (by kernel_rfl) (fun _ _ _ h => h) (Or.inl ⟨by rfl, ?hy22_7_66⟩) hHeld ?re22_7_66
    case hy22_7_66 => (intro w hSw; (try dsimp only at hSw); go_simp; try with_reducible rfl)
    try simp only [Act.put, List.setIfInBounds_toArray, List.set_cons_zero, List.set_cons_succ]
    refine wpAnyH_ready (rs := [4]) (by kernel_rfl) (by simp) ?_
    refine AllReadyH.cons (o := { dst := some 211, op := Go.Op.load 79 (Go.Operand.tmp 210), type := 79, pos := "ordered.go:245", after := #[{ on := 3, ground := Go.Ground.data }], guard := none }) rfl (fun K hK => ?_) AllReadyH.nil
    go_simp
    clear hHeld
    refine hK.out _ _ (KT _ k8.drew) (fun hHeld => ?_)
    clear hK K
    try simp only [Act.put, List.setIfInBounds_toArray, List.set_cons_zero, List.set_cons_succ]
    refine wpAnyH_ready (rs := [8]) (by kernel_rfl) (by simp) ?_
    refine AllReadyH.cons (o := { dst := some 215, op := Go.Op.call { callee := Go.Callee.value (Go.Operand.func 47), args := #[Go.Operand.tmp 211, Go.Operand.tmp 213, Go.Operand.tmp 214], argTypes := #[79, 3, 49] }, type := 79, pos := "ordered.go:245", after := #[{ on := 4, ground := Go.Ground.data }, { on := 6, ground := Go.Ground.data }, { on := 7, ground := Go.Ground.data }], guard := none }) rfl (fun K hK => ?_) AllReadyH.nil
    go_simp
    refine hJT.mono ?_
    rintro e U9 ⟨g2, c2, rfl, o9, k9', hg9⟩
    have k9 : Kp [tl.kb, tl.b, tl.vb] U6 U9 := k8.drew.trans (k9'.mono (by simp))
    have z9 := k9'.at z8 (by simp; exact r6)
    have f9 : U9.frozen? ⟨tl.b, 1, none⟩ = false := frozen_of z9
    have d6 : U9.cell? ⟨tl.b, 1, none⟩ = some (.slice (some ⟨tl.vb, 0, none⟩) 64 tl.vc) := by rw [cell_of z9]; rfl
    clear d5
    clear hHeld
    refine hK.out _ _ (KT _ k9) (fun hHeld => ?_)
    clear hK K
    try simp only [Act.put, List.setIfInBounds_toArray, List.set_cons_zero, List.set_cons_succ]
    refine wpAnyH_take (i := 9) (oi := { dst := some 216, op := Go.Op.nilCheck (Go.Operand.tmp 207), type := 0, pos := "ordered.go:245", after := #[{ on := 0, ground := Go.Ground.data }, { on := 0, ground := Go.Ground.phase }, { on := 1, ground := Go.Ground.phase }, { on := 2, ground := Go.Ground.phase }, { on := 3, ground := Go.Ground.phase }, { on := 4, ground := Go.Ground.phase }, { on := 5, ground := Go.Ground.phase }, { on := 6, ground := Go.Ground.phase }, { on := 7, ground := Go.Ground.phase }, { on := 8, ground := Go.Ground.phase }], guard := none }) (v := ?vv22_9_67) rfl (by kernel_rfl) (by kernel_rfl) (by kernel_rfl) (fun _ _ _ h => h) (Or.inl ⟨by rfl, ?hy22_9_67⟩) hHeld ?re22_9_67
    case hy22_9_67 => (intro w hSw; (try dsimp only at hSw); go_simp; try with_reducible rfl)
    try simp only [Act.put, List.setIfInBounds_toArray, List.set_cons_zero, List.set_cons_succ]
    refine wpAnyH_take (i := 10) (oi := { dst := some 217, op := Go.Op.fieldAddr 81 (Go.Operand.tmp 216) 1, type := 0, pos := "ordered.go:245", after := #[{ on := 9, ground := Go.Ground.data }, { on := 0, ground := Go.Ground.phase }, { on := 1, ground := Go.Ground.phase }, { on := 2, ground := Go.Ground.phase }, { on := 3, ground := Go.Ground.phase }, { on := 4, ground := Go.Ground.phase }, { on := 5, ground := Go.Ground.phase }, { on := 6, ground := Go.Ground.phase }, { on := 7, ground := Go.Ground.phase }, { on := 8, ground := Go.Ground.phase }], guard := none }) (v := ?vv22_10_68) rfl (by kernel_rfl) (by kernel_rfl) (by kernel_rfl) (fun _ _ _ h => h) (Or.inl ⟨by rfl, ?hy22_10_68⟩) hHeld ?re22_10_68
    case hy22_10_68 => (intro w hSw; (try dsimp only at hSw); go_simp; try with_reducible rfl)
    try simp only [Act.put, List.setIfInBounds_toArray, List.set_cons_zero, List.set_cons_succ]
    refine wpAnyH_ready (rs := [11]) (by kernel_rfl) (by simp) ?_
    refine AllReadyH.cons (o := { dst := none, op := Go.Op.store 79 (Go.Operand.tmp 217) (Go.Operand.tmp 215), type := 0, pos := "ordered.go:245", after := #[{ on := 10, ground := Go.Ground.data }, { on := 8, ground := Go.Ground.data }, { on := 8, ground := Go.Ground.chain }, { on := 0, ground := Go.Ground.phase }, { on := 1, ground := Go.Ground.phase }, { on := 2, ground := Go.Ground.phase }, { on := 3, ground := Go.Ground.phase }, { on := 4, ground := Go.Ground.phase }, { on := 5, ground := Go.Ground.phase }, { on := 6, ground := Go.Ground.phase }, { on := 7, ground := Go.Ground.phase }, { on := 8, ground := Go.Ground.phase }], guard := none }) rfl (fun K hK => ?_) AllReadyH.nil
    go_simp
    clear hHeld
    refine hK.out _ _ (KT _ (k9.setCell (by simp) _)) (fun hHeld => ?_)
    clear hK K
    try simp only [Act.put, List.setIfInBounds_toArray, List.set_cons_zero, List.set_cons_succ]
    refine wpAnyH_done (by kernel_rfl) ?_ _
    clear hHeld
    generalize hD : U9.setCell ⟨tl.b, 1, none⟩ (.slice (some ⟨g2, 0, none⟩) 65 c2) = U10
    have k10 : Kp [tl.kb, tl.b, tl.vb] U6 U10 := by rw [← hD]; exact k9.setCell (by simp) _
    have z10 : U10.heap[tl.b]? = some (.cells #[.slice (some ⟨g1, 0, none⟩) 65 c1, .slice (some ⟨g2, 0, none⟩) 65 c2] 81) := by rw [← hD]; exact heap_setCell_same' _ z9
    have e10 : ∀ x, x ≠ tl.b → U10.heap[x]? = U9.heap[x]? := by intro x hx; rw [← hD]; exact Below.heap_setCell _ _ _ _ (by simpa using hx)
    clear hD
    have FIN : Hid (Ins N mb sh k v (L1 ++ lf :: L2) w U10) := by
      have lg9 : g1 < U8.drew.heap.size := by show g1 < U8.heap.size; omega
      have hgl2 : g2 ≠ tl.b ∧ (g2 = tl.vb ∨ U6.heap.size ≤ g2) := by
        have h8 := k8.size
        have e : U8.drew.heap.size = U8.heap.size := rfl
        rcases hg9 with h | h
        · subst h; exact ⟨r6.symm, .inl rfl⟩
        · exact ⟨by omega, .inr (by omega)⟩
      have okP : LeafOk N U10 (tl.plus g1 c1 g2 c2 j k v) := by
        refine LeafOk.put HnT.out jle (by omega) bT o7 o9 z10 ?_ (e10 _ hgl2.1)
        rw [e10 _ hgl.1, k9'.block _ lg9 (by simp; exact hgl.2.1)]
        exact e8 _ hgl.1
      exact fin_split hs hA hZ hbase HLL.out Hl'.out hm hnear hL hK1 hm1 hkeysfew Hl1.out Hl2.out Htl.out Hbj.out hm6 Row6.out kW6 hW1s HBw y0 ok16 ok26 k10 okP hgl.2.2.2 hgl2.2 llf lkb lvb hr1 hr2 hr3
    go_wp2_with fail
    go_end0
    exact ⟨rfl, FIN.out⟩
end Go.Proofs.Ybulkcnom
