/-
  Seat b4471a, Forward and Back: zzs4471abuild.
-/
import Derived.Test.YbulkcnomNewTable
import Derived.Deep.DeepCutAuto
namespace Go.Proofs.Ybulkcnom
open Go.RowKit
attribute [local go_sem ↓] Go.wp_at_zero Go.wp_at_succ
/-- A slice of integers that came in. -/
def Came (w : World) (a : Option Addr) (len : Nat) (zs : List Int) : Prop := len ≤ zs.length ∧ (0 < len → ∃ x, a = some x ∧ ∀ i, i < len → w.cell? (x.add i) = some (.int .i64 (zs.getD i 0)))
/-- What build leaves: the table, and the set of its keys. -/
def Built (N : Nat) (w w' : World) (tb : Nat) (sv : Value) : Prop :=
  ∃ mb sh L, ∃ ys : List Int, Tbl N w' tb mb sh L ∧ w'.ownsRow N 2 1 sv ys.length (ys.map (Value.int .i64)) ∧ (∀ x, x ∈ keysOf L ↔ x ∈ ys) ∧ ys.length ≤ 300 ∧ FrV N w w'
theorem Kp.grown' {w w' : World} {row : Option Nat} (h : w.grownBy w' row) : Kp row.toList w w' := ⟨h.os, h.tape, h.output, h.size, fun k hk hm => h.block k hk (fun e => hm (by rw [← e]; simp))⟩
theorem Tbl.kp {N tb mb : Nat} {sh : Int} {L : List Leaf} {w w' : World} (h : Tbl N w tb mb sh L) {S : List Nat} (hk : Kp S w w') (hS : ∀ b ∈ S, ∃ c, w.heap[b]? = some (.cells c 2)) : Tbl N w' tb mb sh L := by
  refine ⟨hk.at h.tab (fun hm => ?_), h.rep.kp hk (fun b hb => ?_), h.srt, h.ver.kp hk (fun b hb => ?_), h.lo⟩
  · obtain ⟨c, hc⟩ := hS _ hm
    exact ne_kind hc h.tab (by decide) rfl
  · obtain ⟨c, hc⟩ := hS _ hb
    exact ⟨c, 2, hc, by decide, by decide, by decide, by decide, by decide⟩
  · obtain ⟨c, hc⟩ := hS _ hb
    exact ⟨c, 2, hc, by decide⟩
theorem own_kind {w : World} {N n : Nat} {v : Value} {xs : List Value} (h : w.ownsRow N 2 1 v n xs) : ∀ b ∈ v.ownBlock.toList, N ≤ b ∧ ∃ c, w.heap[b]? = some (.cells c 2) := by
  intro b hb
  rcases h.2 with ⟨rfl, _⟩ | ⟨g, cap, cur, rfl, hN, hg, _⟩
  · simp [Value.ownBlock] at hb
  · simp [Value.ownBlock] at hb
    subst hb
    exact ⟨hN, _, hg⟩
theorem own_frv {w w' : World} {N n : Nat} {v : Value} {xs : List Value} (h : w.ownsRow N 2 1 v n xs) (hf : FrV N w w') : w'.ownsRow N 2 1 v n xs := by
  refine ⟨h.1, ?_⟩
  rcases h.2 with hn | ⟨g, cap, cur, rfl, hN, hg, rest⟩
  · exact .inl hn
  · exact .inr ⟨g, cap, cur, rfl, hN, hf.oth _ _ _ hg (by decide) (by decide), rest⟩
theorem FrV.ofNew {N : Nat} {S : List Nat} {w0 w w' : World} (h : FrV N w0 w) (hk : Kp S w w') (hS : ∀ b ∈ S, N ≤ b ∧ w0.heap.size ≤ b) : FrV N w0 w' :=
  ⟨hk.os.trans h.os, hk.tape.trans h.tape, hk.output.trans h.output, Nat.le_trans h.size hk.size, fun b hb hn => (hk.block b (Nat.lt_of_lt_of_le hb h.size) (fun hm => by have := (hS b hm).1; omega)).trans (h.low b hb hn),
   fun b c t hb ht h9 => hk.at (h.oth b c t hb ht h9) (fun hm => by have := (hS b hm).2; have := lt_of hb; omega)⟩
theorem info2 : (Yba.prog.info? 2).map (fun i => (i.zero, i.size, i.bytes)) = some (some (.int .i64 0), 1, 8) := by kernel_rfl
set_option maxRecDepth 20000 in
set_option maxHeartbeats 1600000 in
theorem build (hIn : InsertSaid) (a0 : Option Addr) (len0 cap0 : Nat) (z0 : List Int) (w : World) (hc : Came w a0 len0 z0) (hlen : len0 ≤ 300) :
    Calls Yba.prog 7 #[.slice a0 len0 cap0] w fun e w' => ∃ tb sv, e = .returned (.tuple #[P tb, sv]) ∧ Built w.heap.size w w' tb sv := by
  obtain ⟨N, hN⟩ : ∃ N, N = w.heap.size := ⟨_, rfl⟩
  have hNT := newTable w
  rw [← hN] at hNT ⊢
  have HN : Hid (N = w.heap.size) := hN
  clear hN
  go_enter Yba.func7, Yba.ntmps7
  go_wp2_with (go_at_call 18; refine hNT.mono ?_; rintro e w1 ⟨tb, mb, rfl, hT, k1⟩)
  clear hNT
  have fr1 : FrV N w w1 := FrV.of k1 (by simp)
  go_loopg [5, 14] len0 (fun g s5 s14 wx => ∃ j : Nat, j ≤ len0 ∧ g = len0 - j ∧ s14 = .int .i64 j ∧ ∃ sh L, ∃ ys : List Int, Tbl N wx tb mb sh L ∧ sh ≤ j ∧ (keysOf L).length ≤ j ∧ wx.ownsRow N 2 1 s5 ys.length (ys.map (Value.int .i64)) ∧ (∀ x, x ∈ keysOf L ↔ x ∈ ys) ∧ ys.length ≤ j ∧ FrV N w wx)
  case atStart => exact ⟨0, Nat.zero_le _, rfl, rfl, 0, [], [], hT, by simp, by simp [keysOf], World.ownsRow_nil _ _ _ _, by simp [keysOf], by simp, fr1⟩
  case round =>
    obtain ⟨j, hj, rfl, rfl, sh, L, ys, hT, hsh, hkl, hown, hmem, hyl, hfr⟩ := hrel
    by_cases hlt : j < len0
    · obtain ⟨x, rfl, hx⟩ := hc.2 (by omega)
      obtain ⟨k, hk⟩ : ∃ k, k = z0.getD j 0 := ⟨_, rfl⟩
      have kcell : wr.cell? (x.add j) = some (.int .i64 k) := by
        have h := hx j hlt
        rw [← hk] at h
        rw [← h]
        have hb : (x.add j).block < w.heap.size := by
          rcases Nat.lt_or_ge (x.add j).block w.heap.size with h' | h'
          · exact h'
          · simp [World.cell?, Array.getElem?_eq_none h'] at h
        exact World.cell?_of_block (hfr.low _ hb (by have := HN.out; omega))
      have b1 : (j : Int) < (len0 : Int) := by omega
      have hwj : IntKind.i64.wrap ((j : Int) + 1) = (j : Int) + 1 := by rw [IntKind.wrap_i64]; omega
      clear hk hx
      obtain ⟨ao, cap, rfl⟩ : ∃ ao cap, u5 = .slice ao ys.length cap := by
        rcases hown.2 with ⟨h, h0⟩ | ⟨g, cap, cur, h, _⟩
        · exact ⟨none, 0, by rw [h, h0]⟩
        · exact ⟨_, _, h⟩
      obtain ⟨m, hm⟩ : ∃ m, m = ys.length := ⟨_, rfl⟩
      have ycell : ∀ i, i < m → ∃ g, ao = some ⟨g, 0, none⟩ ∧ wr.cell? ⟨g, i, none⟩ = some (.int .i64 (ys.getD i 0)) := by
        intro i hi
        obtain ⟨g, cap', h, _⟩ := hown.form (by omega)
        simp at h
        refine ⟨g, h.1, ?_⟩
        have h2 := hown
        rw [h.1] at h2
        rw [h2.cellAt i (by omega), List.getElem?_map, List.getElem?_eq_getElem (by omega)]
        simp [List.getD_eq_getElem?_getD, List.getElem?_eq_getElem (show i < ys.length by omega)]
      have Hm : Hid (m = ys.length) := hm
      rw [← hm]
      have HT : Hid (Tbl N wr tb mb sh L) := hT
      have Hown : Hid (wr.ownsRow N 2 1 (.slice ao ys.length cap) ys.length (ys.map (Value.int .i64))) := hown
      clear hm hT hown
      go_upto_region 8 with fail
      go_loopg [8, 10, 20] m (fun g s8 _ s20 wx => ∃ i : Nat, i ≤ m ∧ g = m - i ∧ s20 = .int .i64 i ∧ s8 = .bool false ∧ wx = wr ∧ ∀ i', i' < i → ys.getD i' 0 ≠ k)
      case atStart => exact ⟨0, Nat.zero_le _, rfl, rfl, rfl, rfl, fun i' h => absurd h (by omega)⟩
      case round =>
        obtain ⟨i, hi, rfl, rfl, rfl, rfl, hno⟩ := hrel
        have Hno : Hid (∀ i', i' < i → ys.getD i' 0 ≠ k) := hno
        clear hno
        by_cases hlt2 : i < m
        · obtain ⟨gb, rfl, hcy⟩ := ycell i hlt2
          have b2 : (i : Int) < (m : Int) := by omega
          have hwi : IntKind.i64.wrap ((i : Int) + 1) = (i : Int) + 1 := by have := Hm.out; rw [IntKind.wrap_i64]; omega
          obtain ⟨y, hy⟩ : ∃ y, y = ys.getD i 0 := ⟨_, rfl⟩
          rw [← hy] at hcy
          have Hy : Hid (y = ys.getD i 0) := hy
          clear hy
          by_cases hyk : y = k
          · subst hyk
            have TT : Hid (Tbl N wr tb mb sh L) := HT.out
            have FIN : Hid (∀ w3 w4 w6, Kp [] wr w3 → Kp [] w3 w4 → Wrote N tb mb sh y L (w4.alloc (.cells #[.int .u8 1, .int .i64 y, .string ⟨#[]⟩] 44)) w6 → ∃ sh' L', ∃ ys' : List Int, Tbl N w6 tb mb sh' L' ∧ sh' ≤ ((j + 1 : Nat) : Int) ∧ (keysOf L').length ≤ j + 1 ∧ w6.ownsRow N 2 1 (.slice (some ⟨gb, 0, none⟩) m cap) ys'.length (ys'.map (Value.int .i64)) ∧ (∀ x, x ∈ keysOf L' ↔ x ∈ ys') ∧ ys'.length ≤ j + 1 ∧ FrV N w w6) := by
              rintro w3 w4 w6 k3 k4 ⟨L', sh', f1, f2, f3, f4, f5⟩
              have fk : FrV N wr w6 := (FrV.of ((k3.trans k4).alloc _) (by simp)).trans f5
              refine ⟨sh', L', ys, f1, by omega, by omega, ?_, fun x => ?_, by omega, hfr.trans fk⟩
              · have h := own_frv Hown.out fk
                rwa [← Hm.out] at h ⊢
              · rw [f3 x, hmem x]
                constructor
                · rintro (rfl | h)
                  · have hyy := Hy.out
                    have := Hm.out
                    rw [List.getD_eq_getElem?_getD, List.getElem?_eq_getElem (by omega)] at hyy
                    rw [hyy]
                    exact List.getElem_mem _
                  · exact h
                · exact .inr
            have hWr := fun w' (h : Tbl N w' tb mb sh L) ra rl rc => write hIn N tb mb sh y 1 L ra rl rc w' h (by omega) (by omega)
            go_upto_region 15 with fail
            go_wp2_with fail
            refine (intV y _).mono ?_
            rintro e w3 ⟨rfl, k3⟩
            go_wp2_with fail
            refine (intV y _).mono ?_
            rintro e w4 ⟨rfl, k4⟩
            have T5 := (((TT.out).kp k3 (by simp)).kp k4 (by simp)).kp ((Kp.refl [] _).alloc (.cells #[.int .u8 1, .int .i64 y, .string ⟨#[]⟩] 44)) (by simp)
            go_wp2_with fail
            refine (hWr _ T5 _ _ _).mono ?_
            rintro e w6 ⟨⟨_, rfl⟩, hw6⟩
            have F6 := FIN.out w3 w4 w6 k3 k4 hw6
            clear T5 hw6 hWr
            go_wp2_with fail
            go_roundg (len0 - (j + 1))
            case measure => omega
            case rel =>
              obtain ⟨sh', L', ys', f1, f2, f3, f4, f5, f6, f7⟩ := F6
              exact ⟨j + 1, by omega, rfl, by simp, sh', L', ys', f1, f2, f3, f4, f5, f6, f7⟩
          · have b3 : (y == k) = false := by simpa using hyk
            go_wp2_with fail
            go_roundg (m - (i + 1))
            case measure => omega
            case rel =>
              refine ⟨i + 1, by omega, rfl, by simp, rfl, rfl, fun i' h => ?_⟩
              by_cases e : i' = i
              · subst e; have := Hy.out; rw [← this]; exact hyk
              · exact Hno.out i' (by omega)
        · have b2 : ¬ (i : Int) < (m : Int) := by omega
          have own' : wr.ownsRow N 2 1 (.slice ao m cap) m (ys.map (Value.int .i64)) := by have := Hown.out; rwa [← Hm.out] at this
          have hm300 : m ≤ 300 := by have := Hm.out; omega
          have hNw : N ≤ wr.heap.size := by have := hfr.size; have := HN.out; omega
          obtain ⟨i0, hi0, hz0, hz1, hz2⟩ := info_parts info2
          go_upto_region 15 with (at_builtin; refine wpList_append_lies _ rfl (.tmp 30) (.tmp 32) 22 rfl N 2 i0 (.int .i64 0) 1 8 Yba.underlying22 hi0 hz0 hz1 hz2 rfl (by decide) (.slice ao m cap) m (ys.map (Value.int .i64)) rfl (own'.alloc _) ⟨wr.heap.size, 0, none⟩ 1 1 [.int .i64 k] rfl rfl (World.news_of_block (heap_alloc_same _ _)) (by intro u hu; simp at hu; subst hu; rfl) (by decide) (by unfold maxLen; omega) (by omega) (by simp; omega) _ rfl ?_; intro g cap' w2 hown2 hgrow hat hlt3)
          have k2 : Kp (Value.slice ao m cap).ownBlock.toList wr w2 := ((Kp.refl _ _).alloc _).trans (Kp.grown' hgrow)
          have hb2 := own_kind own'
          have TT : Hid (Tbl N w2 tb mb sh L) := HT.out.kp k2 (fun b hb => (hb2 b hb).2)
          have FIN : Hid (∀ w3 w4 w6, Kp [] w2 w3 → Kp [] w3 w4 → Wrote N tb mb sh k L (w4.alloc (.cells #[.int .u8 1, .int .i64 k, .string ⟨#[]⟩] 44)) w6 → ∃ sh' L', ∃ ys' : List Int, Tbl N w6 tb mb sh' L' ∧ sh' ≤ ((j + 1 : Nat) : Int) ∧ (keysOf L').length ≤ j + 1 ∧ w6.ownsRow N 2 1 (.slice (some ⟨g, 0, none⟩) (m + 1) cap') ys'.length (ys'.map (Value.int .i64)) ∧ (∀ x, x ∈ keysOf L' ↔ x ∈ ys') ∧ ys'.length ≤ j + 1 ∧ FrV N w w6) := by
            rintro w3 w4 w6 k3 k4 ⟨L', sh', f1, f2, f3, f4, f5⟩
            have fk : FrV N w2 w6 := (FrV.of ((k3.trans k4).alloc _) (by simp)).trans f5
            have fr2 : FrV N w w2 := hfr.ofNew k2 (fun b hb => by have h := (hb2 b hb).1; have := HN.out; exact ⟨h, by omega⟩)
            refine ⟨sh', L', ys ++ [k], f1, by omega, by omega, ?_, fun x => ?_, by simp; have := Hm.out; omega, fr2.trans fk⟩
            · have h := own_frv hown2 fk
              have e : (ys ++ [k]).length = m + 1 := by simp; exact Hm.out.symm
              rw [e]
              simpa using h
            · rw [f3 x, hmem x]
              simp
              exact Or.comm
          clear hgrow hat hlt3 k2 hb2 hown2 own'
          have hWr := fun w' (h : Tbl N w' tb mb sh L) ra rl rc => write hIn N tb mb sh k 1 L ra rl rc w' h (by omega) (by omega)
          go_upto_region 15 with fail
          go_wp2_with fail
          refine (intV k _).mono ?_
          rintro e w3 ⟨rfl, k3⟩
          go_wp2_with fail
          refine (intV k _).mono ?_
          rintro e w4 ⟨rfl, k4⟩
          have T5 := (((TT.out).kp k3 (by simp)).kp k4 (by simp)).kp ((Kp.refl [] _).alloc (.cells #[.int .u8 1, .int .i64 k, .string ⟨#[]⟩] 44)) (by simp)
          go_wp2_with fail
          refine (hWr _ T5 _ _ _).mono ?_
          rintro e w6 ⟨⟨_, rfl⟩, hw6⟩
          have F6 := FIN.out w3 w4 w6 k3 k4 hw6
          clear T5 hw6 hWr
          go_wp2_with fail
          go_roundg (len0 - (j + 1))
          case measure => omega
          case rel =>
            obtain ⟨sh', L', ys', f1, f2, f3, f4, f5, f6, f7⟩ := F6
            exact ⟨j + 1, by omega, rfl, by simp, sh', L', ys', f1, f2, f3, f4, f5, f6, f7⟩
    · have b1 : ¬ (j : Int) < (len0 : Int) := by omega
      go_wp2_with fail
      go_ret2
      exact ⟨tb, _, rfl, mb, sh, L, ys, hT, hown, hmem, by omega, hfr⟩
end Go.Proofs.Ybulkcnom
