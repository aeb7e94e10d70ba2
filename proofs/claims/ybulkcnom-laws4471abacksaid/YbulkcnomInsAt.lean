/-
  Seat b4471a, Forward and Back: insertAt, at the map's three kinds of rows.
-/
import Derived.Test.YbulkcnomLeaves
import Derived.Deep.AppendLies
import Derived.Deep.RegionHeld3
namespace Go.Proofs.Ybulkcnom
open Go.RowKit
attribute [local go_sem ↓] Go.wp_at_zero Go.wp_at_succ
/-- 'copy' into a row of the call's own, elements of any size, as one step of a region that draws. -/
theorem step_copy_in {P : Program} {ops : Array Oper} {o : Oper} {a : Act} {w : World} {K : Act → World → Prop} {Q : Exit → Act → World → Prop} {E : Prop} (hgd : o.guard = none) (d s : Operand) (dT sT : TypeId)
    (ho : o.op = .call { callee := .builtin .copy, args := #[d, s], argTypes := #[dT, sT] }) (elem : TypeId) (hu : P.underlying dT = some (.slice elem)) (size : Nat) (hsz : (P.info? elem).map (·.size) = some size)
    (dp sp : Option Addr) (dLen dCap sLen sCap : Nat) (hd : a.eval d = .slice dp dLen dCap) (hs : a.eval s = .slice sp sLen sCap)
    (g off : Nat) (cur : Array Value) (t : TypeId) (hg : w.heap[g]? = some (.cells cur t)) (cs : List Value) (hn : cs.length = Nat.min sLen dLen * size)
    (hpos : 0 < Nat.min sLen dLen → dp = some ⟨g, off, none⟩ ∧ ∃ ad, sp = some ad ∧ ∀ j v, cs[j]? = some v → w.cell? (ad.add j) = some v)
    (hfit : off + cs.length ≤ cur.size) (h1 : ∀ v ∈ cs, v.oneCell' = true)
    (h : ∀ w', Hid (w'.heap[g]? = some (.cells (Go.splice cur.toList off cs).toArray t)) → Hid (Kp [g] w w') → K (a.put o.dst (goInt (Nat.min sLen dLen))) w') :
    if Region.wanted o (yielded ops a.tmps) = true then Oper.wp P o a w K Q else E := by
  have hw : Region.wanted o (yielded ops a.tmps) = true := by simp [Region.wanted, hgd]
  rw [if_pos hw]
  cases hq : P.info? elem with
  | none => simp [hq] at hsz
  | some i =>
    have hi : i.size = size := by simpa [hq] using hsz
    by_cases h0 : Nat.min sLen dLen = 0
    · obtain rfl : cs = [] := List.eq_nil_of_length_eq_zero (by rw [hn, h0]; simp)
      have hl : ∀ (x : Addr), (loadCells x 0).run P w = .ok #[] w := fun x => by simpa using run_loadCells_list (P := P) w x [] (by simp)
      have hrun : (Builtin.copy_ #[dT, sT] o.type #[.slice dp dLen dCap, .slice sp sLen sCap]).run P w = .ok (goInt 0) w := by
        cases dp <;> cases sp <;> simp [Builtin.copy_, run_underlying hu, Builtin.lenOf, Builtin.firstCells, sizeOf, typeInfo, hq, h0, storeCells, hl]
      unfold Oper.wp
      simp [execOp, ho, resolve, invoke, builtin, hd, hs, hrun, Result.andThen]
      have := h w (show _ = _ by simpa [Go.splice] using hg) (Kp.refl _ _)
      rwa [h0] at this
    · obtain ⟨rfl, ad, rfl, hsrc⟩ := hpos (by omega)
      have hl := run_loadCells_list (P := P) w ad cs hsrc
      have hst := run_storeCells_at P g off t cs 0 cur w hg (by simpa using hfit) h1
      have hrun : (Builtin.copy_ #[dT, sT] o.type #[.slice (some ⟨g, off, none⟩) dLen dCap, .slice (some ad) sLen sCap]).run P w = .ok (goInt (Nat.min sLen dLen)) (w.setRow g (cur.toList.take off ++ cs ++ cur.toList.drop (off + cs.length)).toArray) := by
        simp [Builtin.copy_, run_underlying hu, Builtin.lenOf, Builtin.firstCells, sizeOf, typeInfo, hq, hi, ← hn, hl, hst]
      unfold Oper.wp
      simp [execOp, ho, resolve, invoke, builtin, hd, hs, hrun, Result.andThen]
      refine h _ (show _ = _ by simpa [Go.splice] using setRow_heap w g _ _ t _ hg) ⟨rfl, rfl, rfl, by simp [World.setRow], fun k hk hm => ?_⟩
      exact setRow_other w g k _ (by simpa using hm)
theorem Kp.grown {w w' : World} {g : Nat} (h : w.grownBy w' (some g)) : Kp [g] w w' := ⟨h.os, h.tape, h.output, h.size, fun k hk hm => h.block k hk (by simpa using hm)⟩
theorem info49 : (Yba.prog.info? 49).map (fun i => (i.zero, i.size, i.bytes)) = some (some (.pointer none), 1, 8) := by kernel_rfl
theorem info82 : (Yba.prog.info? 82).map (fun i => (i.zero, i.size, i.bytes)) = some (some (.pointer none), 1, 8) := by kernel_rfl
theorem info44 : (Yba.prog.info? 44).map (fun i => (i.zero, i.size, i.bytes)) = some (some (.agg #[.int .u8 0, .int .i64 0, .string ⟨#[]⟩]), 3, 32) := by kernel_rfl
/-- A row with the end moved up by s cells. -/
theorem moved {α : Type} (cur xs zs : List α) (a s m : Nat) (h : cur.take m = xs ++ zs) (hm : m ≤ cur.length) (hz : zs.length = s) (ha : a ≤ xs.length) : ∃ M R, M.length = s ∧ Go.splice cur (a + s) (xs.drop a) = xs.take a ++ (M ++ (xs.drop a ++ R)) := by
  have hml : m = xs.length + s := by
    have := congrArg List.length h
    simp at this
    omega
  have h2 : cur.take a = xs.take a := by
    have := congrArg (List.take a) h
    rwa [List.take_take, Nat.min_eq_left (by omega), List.take_append_of_le_length ha] at this
  refine ⟨(cur.take (a + s)).drop a, cur.drop (a + s + (xs.drop a).length), by simp; omega, ?_⟩
  unfold Go.splice
  have h3 : cur.take (a + s) = xs.take a ++ (cur.take (a + s)).drop a := by
    have := (List.take_append_drop a (cur.take (a + s))).symm
    rwa [List.take_take, Nat.min_eq_left (by omega), h2] at this
  have h4 : cur.take (a + s) ++ (xs.drop a ++ cur.drop (a + s + (xs.drop a).length)) = (xs.take a ++ (cur.take (a + s)).drop a) ++ (xs.drop a ++ cur.drop (a + s + (xs.drop a).length)) := by rw [← h3]
  rw [h4, List.append_assoc]
theorem set_at {α : Type} (A B : List α) (x : α) (a j : Nat) (ha : A.length = a) (M M' : List α) (hM : M.set j x = M') (hj : j < M.length) : (A ++ (M ++ B)).set (a + j) x = A ++ (M' ++ B) := by
  subst ha
  rw [List.set_append_right _ _ (by omega), show A.length + j - A.length = j by omega, List.set_append_left _ _ hj, hM]
set_option maxRecDepth 20000 in
set_option maxHeartbeats 1600000 in
theorem insV (N vb vc i v n : Nat) (xs : List Value) (w : World) (hown : w.ownsRow N 49 1 (.slice (some ⟨vb, 0, none⟩) n vc) n xs) (h1 : ∀ u ∈ xs, u.oneCell' = true) (hi : i ≤ n) (hn : n ≤ 300) (hN : N ≤ w.heap.size) :
    Calls Yba.prog 47 #[.slice (some ⟨vb, 0, none⟩) n vc, .int .i64 i, P v] w fun e w' => ∃ g cap, e = .returned (.slice (some ⟨g, 0, none⟩) (n + 1) cap) ∧
      w'.ownsRow N 49 1 (.slice (some ⟨g, 0, none⟩) (n + 1) cap) (n + 1) (xs.take i ++ P v :: xs.drop i) ∧ Kp [vb] w w' ∧ (g = vb ∨ w.heap.size ≤ g) := by
  obtain ⟨i0, hi0, hz0, hz1, hz2⟩ := info_parts info49
  have hb := ownsRow_blk hown
  obtain ⟨_, _, hvN, hvc, hvm, _, _⟩ := hb
  have hxs : xs.length = n := by simpa using hown.1
  go_enter Yba.func47, Yba.ntmps47
  go_upto_region 3 with (at_builtin; refine wpList_append_lies _ rfl (.tmp 8) (.tmp 10) 79 rfl N 49 i0 (.pointer none) 1 8 Yba.underlying79 hi0 hz0 hz1 hz2 rfl (by decide) (.slice (some ⟨vb, 0, none⟩) n vc) n xs rfl (hown.alloc _) ⟨w.heap.size, 0, none⟩ 1 1 [.pointer none] rfl rfl (World.news_of_block (heap_alloc_same _ _)) (by intro u hu; simp at hu; subst hu; rfl) (by decide) (by unfold maxLen; omega) (by omega) (by simp; omega) _ rfl ?_; intro g cap w1 hown1 hgrow hat hlt)
  have hk1 : Kp [vb] w w1 := ((Kp.refl _ _).alloc _).trans (Kp.grown hgrow)
  have hg1 : g = vb ∨ w.heap.size ≤ g := by
    rcases hat with h | h
    · exact .inl (by simpa [Value.ownBlock] using h.symm)
    · simp at h; omega
  obtain ⟨cur, hcur, hNg, hcap, hcm, hcs, htake⟩ := ownsRow_blk hown1
  clear hgrow hat hlt hown
  have e1 : ∀ j, j < n + 1 → cur[j]? = (xs ++ [.pointer none])[j]? := by
    intro j hj
    have := congrArg (·[j]?) htake
    simp only [List.getElem?_take] at this
    rw [if_pos (by omega)] at this
    simpa using this
  obtain ⟨i', hi'⟩ : ∃ i', i' = i + 1 := ⟨_, rfl⟩
  have hwr : IntKind.i64.wrap ((i : Int) + 1) = (i' : Int) := by rw [IntKind.wrap_i64]; omega
  have b1 : (i' : Int) ≤ (n : Int) + 1 := by omega
  have b2 : (i : Int) ≤ (n : Int) + 1 := by omega
  have b3 : (i : Int) < (n : Int) + 1 := by omega
  have Hi : Hid (i' = i + 1) := hi'
  clear hi'
  have hmn : Nat.min (n + 1 - i) (n + 1 - i') = n - i := by have := Hi.out; show min (n + 1 - i) (n + 1 - i') = n - i; omega
  have hdl : (xs.drop i).length = n - i := by simp [hxs]
  go_region_held3 (fun _ => True) (exact trivial) ((refine step_copy_in rfl (.tmp 15) (.tmp 18) 79 79 rfl 49 Yba.underlying79 1 (by kernel_rfl) _ _ _ _ _ _ rfl rfl g i' cur 49 hcur (xs.drop i) (by rw [hmn, hdl]; omega) (by rw [hmn]; have := Hi.out; intro h0; refine ⟨by rw [if_neg (by omega)], ⟨g, i, none⟩, by rw [if_neg (by omega)], ?_⟩; intro j u hu; rw [show (⟨g, i, none⟩ : Addr).add j = ⟨g, i + j, none⟩ by (unfold Addr.add; split <;> simp_all)]; have hu' := hu; rw [List.getElem?_drop] at hu'; have hlt : i + j < n := (by have := (List.getElem?_eq_some_iff.1 hu').1; omega); exact (cell_of (w := w1.drew) hcur).trans ((e1 _ (by omega)).trans (by rw [List.getElem?_append_left (by omega)]; exact hu'))) (by have := Hi.out; rw [hdl]; omega) (fun u hu => h1 u (List.mem_of_mem_drop hu)) ?_; intro w2 hg2 hk2))
  generalize (if cap = i' then some (⟨g, 0, none⟩ : Addr) else some ⟨g, i', none⟩) = A1
  generalize (if cap = i then some (⟨g, 0, none⟩ : Addr) else some ⟨g, i, none⟩) = A2
  have hHi := Hi.out
  subst hHi
  have hg2' := hg2.out
  have hk2' : Kp [g] w1 w2 := (Kp.refl [g] w1).drew.trans hk2.out
  obtain ⟨M, R, hM, hsp⟩ := moved cur.toList xs [.pointer none] i 1 ((n + 1) * 1) htake (by simp; omega) rfl (by omega)
  rw [hsp] at hg2'
  obtain ⟨m, rfl⟩ : ∃ m, M = [m] := List.length_eq_one_iff.1 hM
  have c2 : w2.cell? ⟨g, i, none⟩ = some m := by rw [cell_of hg2']; simp [hxs, Nat.min_eq_left hi]
  have f2 : w2.frozen? ⟨g, i, none⟩ = false := frozen_of hg2'
  have G : Hid (w2.heap[g]? = some (.cells (xs.take i ++ ([m] ++ (xs.drop i ++ R))).toArray 49)) := hg2'
  have hszR : (xs.take i ++ ([m] ++ (xs.drop i ++ R))).length = cap := by
    rw [← hsp, length_splice _ _ _ (by rw [hdl]; simp; omega)]; simp; omega
  have FIN : Hid ((w2.setCell ⟨g, i, none⟩ (P v)).ownsRow N 49 1 (.slice (some ⟨g, 0, none⟩) (n + 1) cap) (n + 1) (xs.take i ++ P v :: xs.drop i) ∧ Kp [vb] w (w2.setCell ⟨g, i, none⟩ (P v)) ∧ (g = vb ∨ w.heap.size ≤ g)) := by
    refine ⟨⟨by simp [hxs]; omega, .inr ⟨g, cap, _, rfl, hNg, heap_setCell_same' _ hg2', hcap, hcm, by simpa using hszR, ?_⟩⟩, ?_, hg1⟩
    · have := set_at (xs.take i) (xs.drop i ++ R) (P v) i 0 (by simp [hxs, hi]) [m] [P v] rfl (by simp)
      simp only [Nat.add_zero] at this
      simp only [List.setIfInBounds_toArray, this]
      rw [← List.append_assoc, ← List.append_assoc, List.take_append_of_le_length (by simp [hxs]; omega), List.take_of_length_le (by simp [hxs]; omega)]
      simp
    · have h' : Kp [vb] w w2 := hk1.new hk2' (by simpa using hg1)
      exact h'.setCell (by simpa using hg1) _
  clear hg2' hg2 hk2 hsp htake e1 hcur hwr b1 b2 G hszR hk1 hk2' hown1 hmn Hi hdl
  go_wp2_with fail
  go_ret
  exact ⟨_, _, rfl, FIN.out⟩
set_option maxRecDepth 20000 in
set_option maxHeartbeats 1600000 in
theorem insL (N vb vc i v n : Nat) (xs : List Value) (w : World) (hown : w.ownsRow N 82 1 (.slice (some ⟨vb, 0, none⟩) n vc) n xs) (h1 : ∀ u ∈ xs, u.oneCell' = true) (hi : i ≤ n) (hn : n ≤ 300) (hN : N ≤ w.heap.size) :
    Calls Yba.prog 48 #[.slice (some ⟨vb, 0, none⟩) n vc, .int .i64 i, P v] w fun e w' => ∃ g cap, e = .returned (.slice (some ⟨g, 0, none⟩) (n + 1) cap) ∧
      w'.ownsRow N 82 1 (.slice (some ⟨g, 0, none⟩) (n + 1) cap) (n + 1) (xs.take i ++ P v :: xs.drop i) ∧ Kp [vb] w w' ∧ (g = vb ∨ w.heap.size ≤ g) := by
  obtain ⟨i0, hi0, hz0, hz1, hz2⟩ := info_parts info82
  have hb := ownsRow_blk hown
  obtain ⟨_, _, hvN, hvc, hvm, _, _⟩ := hb
  have hxs : xs.length = n := by simpa using hown.1
  go_enter Yba.func48, Yba.ntmps48
  go_upto_region 3 with (at_builtin; refine wpList_append_lies _ rfl (.tmp 8) (.tmp 10) 83 rfl N 82 i0 (.pointer none) 1 8 Yba.underlying83 hi0 hz0 hz1 hz2 rfl (by decide) (.slice (some ⟨vb, 0, none⟩) n vc) n xs rfl (hown.alloc _) ⟨w.heap.size, 0, none⟩ 1 1 [.pointer none] rfl rfl (World.news_of_block (heap_alloc_same _ _)) (by intro u hu; simp at hu; subst hu; rfl) (by decide) (by unfold maxLen; omega) (by omega) (by simp; omega) _ rfl ?_; intro g cap w1 hown1 hgrow hat hlt)
  have hk1 : Kp [vb] w w1 := ((Kp.refl _ _).alloc _).trans (Kp.grown hgrow)
  have hg1 : g = vb ∨ w.heap.size ≤ g := by
    rcases hat with h | h
    · exact .inl (by simpa [Value.ownBlock] using h.symm)
    · simp at h; omega
  obtain ⟨cur, hcur, hNg, hcap, hcm, hcs, htake⟩ := ownsRow_blk hown1
  clear hgrow hat hlt hown
  have e1 : ∀ j, j < n + 1 → cur[j]? = (xs ++ [.pointer none])[j]? := by
    intro j hj
    have := congrArg (·[j]?) htake
    simp only [List.getElem?_take] at this
    rw [if_pos (by omega)] at this
    simpa using this
  obtain ⟨i', hi'⟩ : ∃ i', i' = i + 1 := ⟨_, rfl⟩
  have hwr : IntKind.i64.wrap ((i : Int) + 1) = (i' : Int) := by rw [IntKind.wrap_i64]; omega
  have b1 : (i' : Int) ≤ (n : Int) + 1 := by omega
  have b2 : (i : Int) ≤ (n : Int) + 1 := by omega
  have b3 : (i : Int) < (n : Int) + 1 := by omega
  have Hi : Hid (i' = i + 1) := hi'
  clear hi'
  have hmn : Nat.min (n + 1 - i) (n + 1 - i') = n - i := by have := Hi.out; show min (n + 1 - i) (n + 1 - i') = n - i; omega
  have hdl : (xs.drop i).length = n - i := by simp [hxs]
  go_region_held3 (fun _ => True) (exact trivial) ((refine step_copy_in rfl (.tmp 15) (.tmp 18) 83 83 rfl 82 Yba.underlying83 1 (by kernel_rfl) _ _ _ _ _ _ rfl rfl g i' cur 82 hcur (xs.drop i) (by rw [hmn, hdl]; omega) (by rw [hmn]; have := Hi.out; intro h0; refine ⟨by rw [if_neg (by omega)], ⟨g, i, none⟩, by rw [if_neg (by omega)], ?_⟩; intro j u hu; rw [show (⟨g, i, none⟩ : Addr).add j = ⟨g, i + j, none⟩ by (unfold Addr.add; split <;> simp_all)]; have hu' := hu; rw [List.getElem?_drop] at hu'; have hlt : i + j < n := (by have := (List.getElem?_eq_some_iff.1 hu').1; omega); exact (cell_of (w := w1.drew) hcur).trans ((e1 _ (by omega)).trans (by rw [List.getElem?_append_left (by omega)]; exact hu'))) (by have := Hi.out; rw [hdl]; omega) (fun u hu => h1 u (List.mem_of_mem_drop hu)) ?_; intro w2 hg2 hk2))
  generalize (if cap = i' then some (⟨g, 0, none⟩ : Addr) else some ⟨g, i', none⟩) = A1
  generalize (if cap = i then some (⟨g, 0, none⟩ : Addr) else some ⟨g, i, none⟩) = A2
  have hHi := Hi.out
  subst hHi
  have hg2' := hg2.out
  have hk2' : Kp [g] w1 w2 := (Kp.refl [g] w1).drew.trans hk2.out
  obtain ⟨M, R, hM, hsp⟩ := moved cur.toList xs [.pointer none] i 1 ((n + 1) * 1) htake (by simp; omega) rfl (by omega)
  rw [hsp] at hg2'
  obtain ⟨m, rfl⟩ : ∃ m, M = [m] := List.length_eq_one_iff.1 hM
  have c2 : w2.cell? ⟨g, i, none⟩ = some m := by rw [cell_of hg2']; simp [hxs, Nat.min_eq_left hi]
  have f2 : w2.frozen? ⟨g, i, none⟩ = false := frozen_of hg2'
  have G : Hid (w2.heap[g]? = some (.cells (xs.take i ++ ([m] ++ (xs.drop i ++ R))).toArray 82)) := hg2'
  have hszR : (xs.take i ++ ([m] ++ (xs.drop i ++ R))).length = cap := by
    rw [← hsp, length_splice _ _ _ (by rw [hdl]; simp; omega)]; simp; omega
  have FIN : Hid ((w2.setCell ⟨g, i, none⟩ (P v)).ownsRow N 82 1 (.slice (some ⟨g, 0, none⟩) (n + 1) cap) (n + 1) (xs.take i ++ P v :: xs.drop i) ∧ Kp [vb] w (w2.setCell ⟨g, i, none⟩ (P v)) ∧ (g = vb ∨ w.heap.size ≤ g)) := by
    refine ⟨⟨by simp [hxs]; omega, .inr ⟨g, cap, _, rfl, hNg, heap_setCell_same' _ hg2', hcap, hcm, by simpa using hszR, ?_⟩⟩, ?_, hg1⟩
    · have := set_at (xs.take i) (xs.drop i ++ R) (P v) i 0 (by simp [hxs, hi]) [m] [P v] rfl (by simp)
      simp only [Nat.add_zero] at this
      simp only [List.setIfInBounds_toArray, this]
      rw [← List.append_assoc, ← List.append_assoc, List.take_append_of_le_length (by simp [hxs]; omega), List.take_of_length_le (by simp [hxs]; omega)]
      simp
    · have h' : Kp [vb] w w2 := hk1.new hk2' (by simpa using hg1)
      exact h'.setCell (by simpa using hg1) _
  clear hg2' hg2 hk2 hsp htake e1 hcur hwr b1 b2 G hszR hk1 hk2' hown1 hmn Hi hdl
  go_wp2_with fail
  go_ret
  exact ⟨_, _, rfl, FIN.out⟩
set_option maxRecDepth 20000 in
set_option maxHeartbeats 1600000 in
theorem insK (N kb kc i n : Nat) (k : Int) (xs : List Value) (w : World) (hown : w.ownsRow N 44 3 (.slice (some ⟨kb, 0, none⟩) n kc) n xs) (h1 : ∀ u ∈ xs, u.oneCell' = true) (hi : i ≤ n) (hn : n ≤ 300) (hN : N ≤ w.heap.size) :
    Calls Yba.prog 46 #[.slice (some ⟨kb, 0, none⟩) n kc, .int .i64 i, V k] w fun e w' => ∃ g cap, e = .returned (.slice (some ⟨g, 0, none⟩) (n + 1) cap) ∧
      w'.ownsRow N 44 3 (.slice (some ⟨g, 0, none⟩) (n + 1) cap) (n + 1) (xs.take (i * 3) ++ ((VC k).toList ++ xs.drop (i * 3))) ∧ Kp [kb] w w' ∧ (g = kb ∨ w.heap.size ≤ g) := by
  obtain ⟨i0, hi0, hz0, hz1, hz2⟩ := info_parts info44
  obtain ⟨_, hkb, hvN, hvc, hvm, _, _⟩ := ownsRow_blk hown
  have hkb' := lt_of hkb
  clear hkb
  have hxs : xs.length = n * 3 := by simpa using hown.1
  obtain ⟨W, hW⟩ : ∃ W, W = ((w.alloc (.cells (VC k) 44)).alloc (.cells #[.int .u8 0, .int .i64 0, .string ⟨#[]⟩] 44)).alloc (.cells #[.int .u8 0, .int .i64 0, .string ⟨#[]⟩] 44) := ⟨_, rfl⟩
  obtain ⟨B, hB⟩ : ∃ B, B = w.heap.size := ⟨_, rfl⟩
  have hK : Kp [kb] w W := by rw [hW]; exact (((Kp.refl _ _).alloc _).alloc _).alloc _
  have hWs : W.heap.size = B + 3 := by rw [hW, hB]; simp
  have x0 : W.heap[B]? = some (.cells (VC k) 44) := by rw [hW, hB]; exact (((Kp.refl [] _).alloc _).alloc _).at (heap_alloc_same _ _) (by simp)
  have x2 : W.heap[B + 2]? = some (.cells #[.int .u8 0, .int .i64 0, .string ⟨#[]⟩] 44) := by rw [hW, hB]; exact heap_alloc_at _ _ (by simp)
  have hownW : W.ownsRow N 44 3 (.slice (some ⟨kb, 0, none⟩) n kc) n xs := by rw [hW]; exact ((hown.alloc _).alloc _).alloc _
  go_enter Yba.func46, Yba.ntmps46
  go_upto_region 3 with (at_builtin; refine wpList_append_lies _ rfl (.tmp 8) (.tmp 10) 70 rfl N 44 i0 (.agg #[.int .u8 0, .int .i64 0, .string ⟨#[]⟩]) 3 32 Yba.underlying70 hi0 hz0 hz1 hz2 rfl (by decide) (.slice (some ⟨kb, 0, none⟩) n kc) n xs rfl (by rw [← hW]; exact hownW) ⟨B + 2, 0, none⟩ 1 1 [.int .u8 0, .int .i64 0, .string ⟨#[]⟩] (by rw [hB]; rfl) rfl (World.news_of_block (by rw [← hW]; exact x2)) (by intro u hu; simp at hu; rcases hu with rfl | rfl | rfl <;> rfl) (by decide) (by unfold maxLen; omega) (by omega) (by rw [← hW]; omega) _ rfl ?_; rw [← hW]; intro g cap w1 hown1 hgrow hat hlt)
  have hk1 : Kp [kb] w w1 := hK.trans (Kp.grown hgrow)
  have hg1 : g = kb ∨ w.heap.size ≤ g := by
    rcases hat with h | h
    · exact .inl (by simpa [Value.ownBlock] using h.symm)
    · omega
  have y0 : w1.heap[B]? = some (.cells (VC k) 44) := (Kp.grown hgrow).at x0 (by simp; omega)
  have hgB : g ≠ B := by
    rcases hat with h | h
    · have : g = kb := by simpa [Value.ownBlock] using h.symm
      omega
    · omega
  obtain ⟨cur, hcur, hNg, hcap, hcm, hcs, htake⟩ := ownsRow_blk hown1
  rw [← hB]
  clear hgrow hat hlt hown hownW x0 x2 hWs hW hK hown1
  have Hsz : Hid (B = w.heap.size) := hB
  clear hB
  have e1 : ∀ j, j < (n + 1) * 3 → cur[j]? = (xs ++ [.int .u8 0, .int .i64 0, .string ⟨#[]⟩])[j]? := by
    intro j hj
    have := congrArg (·[j]?) htake
    simp only [List.getElem?_take] at this
    rw [if_pos (by omega)] at this
    simpa using this
  obtain ⟨i', hi'⟩ : ∃ i', i' = i + 1 := ⟨_, rfl⟩
  have hwr : IntKind.i64.wrap ((i : Int) + 1) = (i' : Int) := by rw [IntKind.wrap_i64]; omega
  have b1 : (i' : Int) ≤ (n : Int) + 1 := by omega
  have b2 : (i : Int) ≤ (n : Int) + 1 := by omega
  have b3 : (i : Int) < (n : Int) + 1 := by omega
  have Hi : Hid (i' = i + 1) := hi'
  clear hi'
  have hmn : Nat.min (n + 1 - i) (n + 1 - i') = n - i := by have := Hi.out; show min (n + 1 - i) (n + 1 - i') = n - i; omega
  have hdl : (xs.drop (i * 3)).length = (n - i) * 3 := by simp [hxs]; omega
  go_region_held3 (fun _ => True) (exact trivial) ((refine step_copy_in rfl (.tmp 15) (.tmp 18) 70 70 rfl 44 Yba.underlying70 3 (by kernel_rfl) _ _ _ _ _ _ rfl rfl g (i' * 3) cur 44 hcur (xs.drop (i * 3)) (by rw [hmn, hdl]) (by rw [hmn]; have := Hi.out; intro h0; refine ⟨by rw [if_neg (by omega)], ⟨g, i * 3, none⟩, by rw [if_neg (by omega)], ?_⟩; intro j u hu; rw [show (⟨g, i * 3, none⟩ : Addr).add j = ⟨g, i * 3 + j, none⟩ by (unfold Addr.add; split <;> simp_all)]; have hu' := hu; rw [List.getElem?_drop] at hu'; have hlt : i * 3 + j < n * 3 := (by have := (List.getElem?_eq_some_iff.1 hu').1; omega); exact (cell_of (w := w1.drew) hcur).trans ((e1 _ (by omega)).trans (by rw [List.getElem?_append_left (by omega)]; exact hu'))) (by have := Hi.out; rw [hdl]; omega) (fun u hu => h1 u (List.mem_of_mem_drop hu)) ?_; intro w2 hg2 hk2))
  generalize (if cap = i' then some (⟨g, 0, none⟩ : Addr) else some ⟨g, i' * 3, none⟩) = A1
  generalize (if cap = i then some (⟨g, 0, none⟩ : Addr) else some ⟨g, i * 3, none⟩) = A2
  have hHi := Hi.out
  subst hHi
  have hg2' := hg2.out
  have hk2' : Kp [g] w1 w2 := (Kp.refl [g] w1).drew.trans hk2.out
  obtain ⟨M, R, hM, hsp⟩ := moved cur.toList xs [.int .u8 0, .int .i64 0, .string ⟨#[]⟩] (i * 3) 3 ((n + 1) * 3) htake (by simp; omega) rfl (by omega)
  rw [show (i + 1) * 3 = i * 3 + 3 by omega, hsp] at hg2'
  obtain ⟨m0, m1, m2, rfl⟩ : ∃ m0 m1 m2, M = [m0, m1, m2] := by
    match M, hM with
    | [a, b, c], _ => exact ⟨a, b, c, rfl⟩
  have htl : (xs.take (i * 3)).length = i * 3 := by simp [hxs]; omega
  have c2 : w2.cell? ⟨g, i * 3, none⟩ = some m0 := by rw [cell_of hg2', List.getElem?_toArray, List.getElem?_append_right (by omega), htl]; simp
  have c3 : w2.cell? ⟨g, i * 3 + 1, none⟩ = some m1 := by rw [cell_of hg2', List.getElem?_toArray, List.getElem?_append_right (by omega), htl]; simp
  have c4 : w2.cell? ⟨g, i * 3 + 2, none⟩ = some m2 := by rw [cell_of hg2', List.getElem?_toArray, List.getElem?_append_right (by omega), htl]; simp
  have f2 : ∀ o, w2.frozen? ⟨g, o, none⟩ = false := fun o => frozen_of hg2'
  have y2 := hk2'.at y0 (by simp; exact hgB.symm)
  have d0 : w2.cell? ⟨B, 0, none⟩ = some (.int .u8 1) := by rw [cell_of y2]; rfl
  have d1 : w2.cell? ⟨B, 1, none⟩ = some (.int .i64 k) := by rw [cell_of y2]; rfl
  have d2 : w2.cell? ⟨B, 2, none⟩ = some (.string ⟨#[]⟩) := by rw [cell_of y2]; rfl
  have hszR : (xs.take (i * 3) ++ ([m0, m1, m2] ++ (xs.drop (i * 3) ++ R))).length = cap * 3 := by
    rw [← hsp, length_splice _ _ _ (by rw [hdl]; simp; omega)]; simp; omega
  have FIN : Hid ((((w2.setCell ⟨g, i * 3, none⟩ (.int .u8 1)).setCell ⟨g, i * 3 + 1, none⟩ (.int .i64 k)).setCell ⟨g, i * 3 + 2, none⟩ (.string ⟨#[]⟩)).ownsRow N 44 3 (.slice (some ⟨g, 0, none⟩) (n + 1) cap) (n + 1) (xs.take (i * 3) ++ ((VC k).toList ++ xs.drop (i * 3))) ∧
      Kp [kb] w (((w2.setCell ⟨g, i * 3, none⟩ (.int .u8 1)).setCell ⟨g, i * 3 + 1, none⟩ (.int .i64 k)).setCell ⟨g, i * 3 + 2, none⟩ (.string ⟨#[]⟩)) ∧ (g = kb ∨ w.heap.size ≤ g)) := by
    refine ⟨⟨by simp [hxs]; omega, .inr ⟨g, cap, _, rfl, hNg, heap_setCell_same' _ (heap_setCell_same' _ (heap_setCell_same' _ hg2')), hcap, hcm, by simpa using hszR, ?_⟩⟩, ?_, hg1⟩
    · have s0 := set_at (xs.take (i * 3)) (xs.drop (i * 3) ++ R) (.int .u8 1) (i * 3) 0 htl [m0, m1, m2] _ rfl (by simp)
      have s1 := set_at (xs.take (i * 3)) (xs.drop (i * 3) ++ R) (.int .i64 k) (i * 3) 1 htl [.int .u8 1, m1, m2] _ rfl (by simp)
      have s2 := set_at (xs.take (i * 3)) (xs.drop (i * 3) ++ R) (.string ⟨#[]⟩) (i * 3) 2 htl [.int .u8 1, .int .i64 k, m2] _ rfl (by simp)
      simp only [List.set_cons_zero, List.set_cons_succ, Nat.add_zero] at s0 s1 s2
      simp only [List.setIfInBounds_toArray, s0, s1, s2]
      rw [← List.append_assoc, ← List.append_assoc, List.take_append_of_le_length (by simp [hxs]; omega), List.take_of_length_le (by simp [hxs]; omega)]
      simp
    · have h' : Kp [kb] w w2 := hk1.new hk2' (by simpa using hg1)
      exact ((h'.setCell (by simpa using hg1) _).setCell (by simpa using hg1) _).setCell (by simpa using hg1) _
  clear hg2' hg2 hk2 hsp htake e1 hcur hwr b1 b2 hszR hk1 hk2' hmn Hi hdl y0 y2 htl
  go_wp2_with fail
  go_ret
  exact ⟨_, _, rfl, FIN.out⟩
end Go.Proofs.Ybulkcnom
