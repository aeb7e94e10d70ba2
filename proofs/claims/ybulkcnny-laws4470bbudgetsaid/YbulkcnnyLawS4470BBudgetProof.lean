/-
  The proof of the given statement, after the guide's shell (proof-skeleton.mjs): the walk is ours, the row's step is the shell's.
-/
import Derived.Test.YbulkcnnyRows
import Derived.WalkKit
import Derived.ProofKit
import Derived.OpenShut
import Derived.ShutString
import Derived.Test.YbulkcnnyMaps
namespace Go.Proofs.Ybulkcnny.lawS4470BBudget
open Go.ChangeShapes Go.WideShapes Go.ChangeAt Go.RowKit Go.MuLone
open Go.ChangeMaps (open_string shut_string)
set_option linter.unusedVariables false      -- a walk need not use every 'w<i>' (that an integer argument fits its kind)

theorem own : ownKnob Yba.prog.godebug = none := by kernel_rfl

/-- What the law's own blocks hold at each round's head: r: what is left of the grant. -/
structure St (w wr : World) (p r : Int) : Prop where
  idb : wr.heap[w.heap.size]? = some (.cells #[.int .u64 0, .int .u64 0] 25)
  gb : wr.heap[w.heap.size + 1]? = some (.cells #[.int .i64 r] 39)
  ab : wr.heap[w.heap.size + 1 + 1 + 1 + 1]? = some (.cells #[.int .u64 0, .int .u64 0, .pointer none, .int .u16 p] 48)
  mb : wr.heap[w.heap.size + 1 + 1 + 1 + 1 + 1]? = some (one (En p false (.pointer (some ⟨w.heap.size + 1, 0, none⟩))))
  bb : wr.heap[w.heap.size + 1 + 1 + 1 + 1 + 1 + 1]? = some (.cells (BkC (w.heap.size + 1 + 1 + 1 + 1 + 1)) 36)
  kp : Kp [] w wr
theorem St.next {w wr w' : World} {p r r' : Int} (h : St w wr p r) (k : Kp [w.heap.size + 1] wr w') (hg : w'.heap[w.heap.size + 1]? = some (.cells #[.int .i64 r'] 39)) : St w w' p r' := by
  refine ⟨(k.block _ (lt_of h.idb) (by simp)).trans h.idb, hg, (k.block _ (lt_of h.ab) (by simp; omega)).trans h.ab, (k.block _ (lt_of h.mb) (by simp; omega)).trans h.mb, (k.block _ (lt_of h.bb) (by simp; omega)).trans h.bb, h.kp.thenNew k (by simp)⟩
theorem St.start (w : World) (p r : Int) (c1 c2 : Array Value) : St w (((((((w.alloc (.cells #[.int .u64 0, .int .u64 0] 25)).alloc (.cells #[.int .i64 r] 39)).alloc (.cells c1 46)).alloc (.cells c2 48)).alloc
    (.cells #[.int .u64 0, .int .u64 0, .pointer none, .int .u16 p] 48)).alloc (one (En p false (.pointer (some ⟨w.heap.size + 1, 0, none⟩))))).alloc (.cells (BkC (w.heap.size + 1 + 1 + 1 + 1 + 1)) 36)) p r := by
  have hs : ∀ (v : World) (o : Obj), (v.alloc o).heap.size = v.heap.size + 1 := fun v o => by simp
  refine ⟨?_, ?_, ?_, ?_, ?_, ((((((((Kp.refl _ w).alloc _ _).alloc _ _).alloc _ _).alloc _ _).alloc _ _).allocOne _).alloc _ _)⟩
  all_goals
    repeat rw [Below.heap_alloc _ _ _ (by simp only [hs]; omega)]
    exact heap_alloc_at _ _ (by simp only [hs])

/-! ### STEP 1: THE WALK: the Go text returns true. 'Grown w w'': the world has at most new blocks (Derived/RowKit3.lean). Part the cases AHEAD of 'go_enter' where a test parts the walk; take each callee by a contract of your own. -/
set_option maxHeartbeats 1600000 in
theorem walk (a0 : Int) (a1 : Int) (a2 : Int) (w0 : (Lit.int .i64 a0).wf = true) (w1 : (Lit.int .u16 a1).wf = true) (w2 : (Lit.int .u16 a2).wf = true) (w : World) :
    Calls Yba.prog 4 #[.int .i64 a0, .int .u16 a1, .int .u16 a2] w fun e w' => e = .returned (.bool true) ∧ Grown w w' := by
  have hmm := @run_makeMap Yba.prog
  have hup := upd_new
  have b0 : a0 ≤ 9223372036854775807 := by have := bounds_i64 w0; omega
  have b1 := (bounds_u16 w1).1
  have b2 := (bounds_u16 w1).2
  clear w0 w1 w2
  go_enter Yba.func4, Yba.ntmps4
  go_wp2_with (go_at_call 5; refine (addrPortFrom _ _).mono ?_; rintro e w' ⟨rfl, c1, c2, rfl⟩)
  go_loopw [12, 13] (fun s12 s13 wr => ∃ (r : Int) (k : Nat), s12 = .int .i64 r ∧ s13 = .int .i64 k ∧ r ≤ 9223372036854775807 ∧ k ≤ 300 ∧ St w wr a2 r) (fun _ i _ => 300 - (intOf i).toNat)
  case atStart => exact ⟨a0, 0, rfl, rfl, b0, by omega, St.start w a2 a0 c1 c2⟩
  case round =>
    obtain ⟨r, k, rfl, rfl, hr, hk, hst⟩ := hrel
    by_cases hlt : (k : Int) < a1 % 300
    · have ci0 : wr.cell? ⟨w.heap.size, 0, none⟩ = some (.int .u64 0) := cell_of hst.idb
      have ci1 : wr.cell? ⟨w.heap.size, 1, none⟩ = some (.int .u64 0) := cell_of hst.idb
      have ca0 : wr.cell? ⟨w.heap.size + 1 + 1 + 1 + 1, 0, none⟩ = some (.int .u64 0) := cell_of hst.ab
      have ca1 : wr.cell? ⟨w.heap.size + 1 + 1 + 1 + 1, 1, none⟩ = some (.int .u64 0) := cell_of hst.ab
      have ca2 : wr.cell? ⟨w.heap.size + 1 + 1 + 1 + 1, 2, none⟩ = some (.pointer none) := cell_of hst.ab
      have ca3 : wr.cell? ⟨w.heap.size + 1 + 1 + 1 + 1, 3, none⟩ = some (.int .u16 a2) := cell_of hst.ab
      by_cases h37 : 37 ≤ r
      · go_wp2_with (go_at_call 6; refine (payPing_ok _ _ a2 _ r _ hst.bb (by omega) hst.mb (by omega) hst.gb h37 hr).mono ?_; rintro e w3 ⟨rfl, hk3, hg3⟩; have cg : w3.cell? ⟨w.heap.size + 1, 0, none⟩ = some (.int .i64 (r - 37)) := cell_of hg3; have hst3 := hst.next hk3 hg3; clear hk3 hg3)
        go_roundw
        case rel => exact ⟨r - 37, k + 1, rfl, by go_num, by omega, by omega, hst3⟩
        case measure => simp [intOf]; omega
      · go_wp2_with (go_at_call 6; refine (payPing_no _ _ a2 _ r _ hst.bb (by omega) hst.mb (by omega) hst.gb (by omega)).mono ?_; rintro e w3 ⟨rfl, hk3⟩; have hg3 := (hk3.block _ (lt_of hst.gb) (by simp)).trans hst.gb; have cg : w3.cell? ⟨w.heap.size + 1, 0, none⟩ = some (.int .i64 r) := cell_of hg3; have hst3 := hst.next (hk3.mono (by simp)) hg3; clear hk3 hg3)
        go_roundw
        case rel => exact ⟨r, k + 1, rfl, by go_num, by omega, by omega, hst3⟩
        case measure => simp [intOf]; omega
    · go_wp2
      go_ret
      exact ⟨rfl, hst.kp.grown⟩

/-! ### THE ROW's STEP: WRITTEN OUT: LEAVE IT -/
set_option maxRecDepth 100000 in
theorem lifted (os : Os) (started : os.Started) (H : Type) (enc : TypeId × Value → H) :
    ReturnsInHanded {} Yba.checked os 4 .any (Rows.lawS4470BBudgetSpec.pre6 enc Yba.prog Yba.f4 Rows.lawS4470BBudgetRow.domain false) (Rows.lawS4470BBudgetSpec.post enc Yba.prog Yba.f4 false true false false) := by
  refine returnsInHanded_of_change (C := Yba.checked) own started (by kernel_rfl) Yba.func4
    (ChangeSpec.witness6 (enc := enc) (C := Yba.checked) false ⟨#[], #[.int .i64 0, .int .u16 0, .int .u16 0], []⟩ 8 (by kernel_rfl) (by kernel_rfl) (by kernel_rfl) (by kernel_rfl)) ?_
  intro W base args ds gs before hval0 hW hcnd _
  have hval : ∀ (j : Nat) t v, Yba.f4.params[j]? = some t → args[j]? = some v → Value.okWide Yba.prog W .any base t v := hval0
  have hW' := hW
  obtain ⟨p, q, hA0, hV, rfl, hfz, hnd⟩ := hW
  have hA : DataW.TrodAll enc Yba.prog W 0 (fun _ => true) true Yba.f4.params.toList args.toList ds p := hA0
  rw [Yba.params4] at hA hval
  obtain ⟨v0, vs0, d0, ds0, p0, q0, hargs, rfl, rfl, h0, r0⟩ := trodAll_cons hA
  obtain ⟨v1, vs1, d1, ds1, p1, q1, rfl, rfl, rfl, h1, r1⟩ := trodAll_cons r0
  obtain ⟨v2, vs2, d2, ds2, p2, q2, rfl, rfl, rfl, h2, r2⟩ := trodAll_cons r1
  obtain ⟨rfl, rfl, rfl⟩ := trodAll_nil r2
  obtain rfl : args = #[v0, v1, v2] := by cases args; simp_all
  obtain ⟨rfl, rfl⟩ := trodVars_none hV
  obtain ⟨a0, rfl, rfl, rfl, w0⟩ := open_int Yba.underlying3 (hval 0 3 v0 rfl rfl) h0
  obtain ⟨a1, rfl, rfl, rfl, w1⟩ := open_int Yba.underlying22 (hval 1 22 v1 rfl rfl) h1
  obtain ⟨a2, rfl, rfl, rfl, w2⟩ := open_int Yba.underlying22 (hval 2 22 v2 rfl rfl) h2
  clear hA0 hval0
  simp only [List.append_nil] at hW'
  refine (walk a0 a1 a2 w0 w1 w2 W).mono fun e W' ⟨he, hg⟩ => ?_
  subst he
  exact ⟨_, rfl, post_of_same (pa := []) (pv := []) hW' (fun _ _ _ => (trodAll_cons_mk (shut_bool Yba.underlying4 _) trodAll_mk0)) (fun sp _ => (trodAll_cons_mk (shut_int Yba.underlying3 w0) (trodAll_cons_mk (shut_int Yba.underlying22 w1) (trodAll_cons_mk (shut_int Yba.underlying22 w2) trodAll_mk0)))) (fun _ _ => rfl) rfl
    (hg.frame _) hg.2.1 (ok_one (by kernel_rfl) rfl (okWide_bool_mk Yba.underlying4 _))⟩

theorem over : Rows.lawS4470BBudgetRow.holds Yba.pinned (OpenSpec.ofChange Rows.lawS4470BBudgetSpec) :=
  OpenClaim.holds_of_wide 4 Yba.f4 rfl rfl rfl rfl rfl rfl rfl ⟨rfl, rfl, rfl, rfl, rfl⟩ rfl rfl rfl rfl rfl (by kernel_rfl) Yba.func4 (by kernel_rfl)
    (of_decide_eq_true (by kernel_rfl)) (by unfold Func.isWrapper; first | (rw [if_pos (by decide +kernel)]; kernel_rfl) | (rw [if_neg (by decide +kernel)]; exact ⟨rfl, rfl⟩))
    (fun os started H enc _ => lifted os started H enc)

/-- ████ THE STATEMENT ████ -/
theorem proved : Rows.LawS4470BBudgetSaid :=
  over
#print axioms proved
end Go.Proofs.Ybulkcnny.lawS4470BBudget
