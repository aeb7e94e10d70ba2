/-
  The proof of the given statement, after the guide's shell (proof-skeleton.mjs): the walk is ours, the row's step is the shell's.
-/
import Derived.Test.YbulkcnomRows
import Derived.WalkKit
import Derived.ProofKit
import Derived.OpenShut
import Derived.ShutString
import Derived.Test.YbulkcnomWaits
namespace Go.Proofs.Ybulkcnom.lawS4471BTable
open Go.ChangeShapes Go.WideShapes Go.ChangeAt Go.RowKit
open Go.ChangeMaps (open_string shut_string)
set_option linter.unusedVariables false      -- a walk need not use every 'w<i>' (that an integer argument fits its kind)

theorem own : ownKnob Yba.prog.godebug = none := by kernel_rfl

set_option maxHeartbeats 800000 in
theorem model_any (rm rk em ek : Int) (w : World) :
    Calls Yba.prog 17 #[.int .u8 rm, .int .u8 rk, .int .u8 em, .int .u8 ek] w fun e w' => e = .returned (.bool (wa rm rk em ek)) ∧ w' = w := by
  by_cases h1 : rk = 3
  · have q1 : (rk == 3) = true := by simpa using h1
    by_cases h2 : ek = 3
    · have q2 : (ek == 3) = true := by simpa using h2
      have hw : wa rm rk em ek = true := by unfold wa; rw [if_pos (Or.inl h1)]; simp [h1, h2]
      rw [hw]
      clear h1 h2 hw
      go_enter Yba.func17, Yba.ntmps17
      go_wp2
      go_ret
      exact ⟨rfl, rfl⟩
    · have q2 : (ek == 3) = false := by simpa using h2
      have hw : wa rm rk em ek = false := by unfold wa; rw [if_pos (Or.inl h1)]; simp; omega
      rw [hw]
      clear h1 h2 hw
      go_enter Yba.func17, Yba.ntmps17
      go_wp2
      go_ret
      exact ⟨rfl, rfl⟩
  · have q1 : (rk == 3) = false := by simpa using h1
    by_cases h2 : ek = 3
    · have q2 : (ek == 3) = true := by simpa using h2
      have hw : wa rm rk em ek = false := by unfold wa; rw [if_pos (Or.inr h2)]; simp; omega
      rw [hw]
      clear h1 h2 hw
      go_enter Yba.func17, Yba.ntmps17
      go_wp2
      go_ret
      exact ⟨rfl, rfl⟩
    · have q2 : (ek == 3) = false := by simpa using h2
      by_cases h3 : rm = 1
      · have q3 : (rm == 1) = true := by simpa using h3
        have hw : wa rm rk em ek = true := by unfold wa; rw [if_neg (by simp [h1, h2])]; simp [h3]
        rw [hw]
        clear h1 h2 h3 hw
        go_enter Yba.func17, Yba.ntmps17
        go_wp2
        go_ret
        exact ⟨rfl, rfl⟩
      · have q3 : (rm == 1) = false := by simpa using h3
        have hw : wa rm rk em ek = (em == 0) := by unfold wa; rw [if_neg (by simp [h1, h2])]; by_cases h : em = 0 <;> simp [h, h3]
        rw [hw]
        clear h1 h2 h3 hw
        go_enter Yba.func17, Yba.ntmps17
        go_wp2
        go_ret
        exact ⟨rfl, rfl⟩

/-! ### STEP 1: THE WALK: the Go text returns true. 'Grown w w'': the world has at most new blocks (Derived/RowKit3.lean). Part the cases AHEAD of 'go_enter' where a test parts the walk; take each callee by a contract of your own. -/
set_option maxHeartbeats 1600000 in
theorem walk (a0 : Int) (a1 : Int) (a2 : Int) (a3 : Int) (w0 : (Lit.int .u8 a0).wf = true) (w1 : (Lit.int .u8 a1).wf = true) (w2 : (Lit.int .u8 a2).wf = true) (w3 : (Lit.int .u8 a3).wf = true) (w : World) :
    Calls Yba.prog 5 #[.int .u8 a0, .int .u8 a1, .int .u8 a2, .int .u8 a3] w fun e w' => e = .returned (.bool true) ∧ Grown w w' := by
  go_enter Yba.func5, Yba.ntmps5
  go_wp2_with fail
  refine (waits w.heap.size (w.heap.size + 1) a0 a1 a2 a3 _ rfl _ ?_ ?_ ?_ ?_).mono ?_
  · simp [go_sem]
  · simp [go_sem]
  · simp [go_sem]
  · simp [go_sem]
  rintro e w' ⟨rfl, n, rfl⟩
  go_wp2_with (go_at_call 17; refine (model_any a0 a1 a2 a3 _).mono ?_; rintro e w' ⟨rfl, rfl⟩)
  go_ret
  exact ⟨rfl, by repeat (first | exact Grown.refl _ | apply Grown.drewN | apply Grown.drew | apply Grown.alloc)⟩

/-! ### THE ROW's STEP: WRITTEN OUT: LEAVE IT -/
set_option maxRecDepth 100000 in
theorem lifted (os : Os) (started : os.Started) (H : Type) (enc : TypeId × Value → H) :
    ReturnsInHanded {} Yba.checked os 5 .any (Rows.lawS4471BTableSpec.pre6 enc Yba.prog Yba.f5 Rows.lawS4471BTableRow.domain false) (Rows.lawS4471BTableSpec.post enc Yba.prog Yba.f5 false true false false) := by
  refine returnsInHanded_of_change (C := Yba.checked) own started (by kernel_rfl) Yba.func5
    (ChangeSpec.witness6 (enc := enc) (C := Yba.checked) false ⟨#[], #[.int .u8 0, .int .u8 0, .int .u8 0, .int .u8 0], []⟩ 8 (by kernel_rfl) (by kernel_rfl) (by kernel_rfl) (by kernel_rfl)) ?_
  intro W base args ds gs before hval0 hW hcnd _
  have hval : ∀ (j : Nat) t v, Yba.f5.params[j]? = some t → args[j]? = some v → Value.okWide Yba.prog W .any base t v := hval0
  have hW' := hW
  obtain ⟨p, q, hA0, hV, rfl, hfz, hnd⟩ := hW
  have hA : DataW.TrodAll enc Yba.prog W 0 (fun _ => true) true Yba.f5.params.toList args.toList ds p := hA0
  rw [Yba.params5] at hA hval
  obtain ⟨v0, vs0, d0, ds0, p0, q0, hargs, rfl, rfl, h0, r0⟩ := trodAll_cons hA
  obtain ⟨v1, vs1, d1, ds1, p1, q1, rfl, rfl, rfl, h1, r1⟩ := trodAll_cons r0
  obtain ⟨v2, vs2, d2, ds2, p2, q2, rfl, rfl, rfl, h2, r2⟩ := trodAll_cons r1
  obtain ⟨v3, vs3, d3, ds3, p3, q3, rfl, rfl, rfl, h3, r3⟩ := trodAll_cons r2
  obtain ⟨rfl, rfl, rfl⟩ := trodAll_nil r3
  obtain rfl : args = #[v0, v1, v2, v3] := by cases args; simp_all
  obtain ⟨rfl, rfl⟩ := trodVars_none hV
  obtain ⟨a0, rfl, rfl, rfl, w0⟩ := open_int Yba.underlying5 (hval 0 5 v0 rfl rfl) h0
  obtain ⟨a1, rfl, rfl, rfl, w1⟩ := open_int Yba.underlying5 (hval 1 5 v1 rfl rfl) h1
  obtain ⟨a2, rfl, rfl, rfl, w2⟩ := open_int Yba.underlying5 (hval 2 5 v2 rfl rfl) h2
  obtain ⟨a3, rfl, rfl, rfl, w3⟩ := open_int Yba.underlying5 (hval 3 5 v3 rfl rfl) h3
  clear hA0 hval0
  simp only [List.append_nil] at hW'
  refine (walk a0 a1 a2 a3 w0 w1 w2 w3 W).mono fun e W' ⟨he, hg⟩ => ?_
  subst he
  exact ⟨_, rfl, post_of_same (pa := []) (pv := []) hW' (fun _ _ _ => (trodAll_cons_mk (shut_bool Yba.underlying4 _) trodAll_mk0)) (fun sp _ => (trodAll_cons_mk (shut_int Yba.underlying5 w0) (trodAll_cons_mk (shut_int Yba.underlying5 w1) (trodAll_cons_mk (shut_int Yba.underlying5 w2) (trodAll_cons_mk (shut_int Yba.underlying5 w3) trodAll_mk0))))) (fun _ _ => rfl) rfl
    (hg.frame _) hg.2.1 (ok_one (by kernel_rfl) rfl (okWide_bool_mk Yba.underlying4 _))⟩

theorem over : Rows.lawS4471BTableRow.holds Yba.pinned (OpenSpec.ofChange Rows.lawS4471BTableSpec) :=
  OpenClaim.holds_of_wide 5 Yba.f5 rfl rfl rfl rfl rfl rfl rfl ⟨rfl, rfl, rfl, rfl, rfl⟩ rfl rfl rfl rfl rfl (by kernel_rfl) Yba.func5 (by kernel_rfl)
    (of_decide_eq_true (by kernel_rfl)) (by unfold Func.isWrapper; first | (rw [if_pos (by decide +kernel)]; kernel_rfl) | (rw [if_neg (by decide +kernel)]; exact ⟨rfl, rfl⟩))
    (fun os started H enc _ => lifted os started H enc)

/-- ████ THE STATEMENT ████ -/
theorem proved : Rows.LawS4471BTableSaid :=
  over
#print axioms proved
end Go.Proofs.Ybulkcnom.lawS4471BTable
