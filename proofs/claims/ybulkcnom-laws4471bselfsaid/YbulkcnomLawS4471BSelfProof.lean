/-
  The proof of the given statement, after the guide's shell (proof-skeleton.mjs): the walk is ours, the row's step is the shell's.
-/
import Derived.Test.YbulkcnomRows
import Derived.WalkKit
import Derived.ProofKit
import Derived.OpenShut
import Derived.ShutString
import Derived.Test.YbulkcnomWaits
namespace Go.Proofs.Ybulkcnom.lawS4471BSelf
open Go.ChangeShapes Go.WideShapes Go.ChangeAt Go.RowKit
open Go.ChangeMaps (open_string shut_string)
set_option linter.unusedVariables false      -- a walk need not use every 'w<i>' (that an integer argument fits its kind)

theorem own : ownKnob Yba.prog.godebug = none := by kernel_rfl

theorem wa_same (m k : Int) (h : m = 0 ∨ m = 1) : wa m k m k = true := by
  unfold wa
  rcases h with h | h <;> by_cases hk : k = 3 <;> simp [h, hk]
theorem wa_mixed (m k k2 : Int) (h : (k = 3 ∧ ¬ k2 = 3) ∨ (¬ k = 3 ∧ k2 = 3)) : wa m k m k2 = false := by
  unfold wa
  rcases h with ⟨h1, h2⟩ | ⟨h1, h2⟩
  · rw [if_pos (Or.inl h1)]; simp; omega
  · rw [if_pos (Or.inr h2)]; simp; omega
theorem wa_alike (m k k2 : Int) (hm : m = 0 ∨ m = 1) (h : (k = 3 ∧ k2 = 3) ∨ (¬ k = 3 ∧ ¬ k2 = 3)) : wa m k m k2 = true := by
  unfold wa
  rcases h with ⟨h1, h2⟩ | ⟨h1, h2⟩
  · rw [if_pos (Or.inl h1)]; simp; omega
  · rw [if_neg (by simp [h1, h2])]; rcases hm with hm | hm <;> simp [hm]

/-! ### STEP 1: THE WALK: the Go text returns true. 'Grown w w'': the world has at most new blocks (Derived/RowKit3.lean). Part the cases AHEAD of 'go_enter' where a test parts the walk; take each callee by a contract of your own. -/
set_option maxHeartbeats 1600000 in
theorem walk (a0 : Int) (a1 : Int) (a2 : Int) (w0 : (Lit.int .u8 a0).wf = true) (w1 : (Lit.int .u8 a1).wf = true) (w2 : (Lit.int .u8 a2).wf = true) (w : World) :
    Calls Yba.prog 6 #[.int .u8 a0, .int .u8 a1, .int .u8 a2] w fun e w' => e = .returned (.bool true) ∧ Grown w w' := by
  obtain ⟨b00, b01⟩ := bounds_u8 w0
  obtain ⟨b10, b11⟩ := bounds_u8 w1
  obtain ⟨b20, b21⟩ := bounds_u8 w2
  have hm : a0 % 2 = 0 ∨ a0 % 2 = 1 := by omega
  have s1 := wa_same (a0 % 2) (a1 % 4) hm
  have S1 : Hid (wa (a0 % 2) (a1 % 4) (a0 % 2) (a1 % 4) = true) := s1
  have HM : Hid (a0 % 2 = 0 ∨ a0 % 2 = 1) := hm
  clear s1 hm w0 w1 w2
  by_cases h1 : a1 % 4 = 3
  · by_cases h2 : a2 % 4 = 3
    · have q1 : (a1 % 4 == 3) = true := by simpa using h1
      have q2 : (a2 % 4 == 3) = true := by simpa using h2
      have X1 : Hid (wa (a0 % 2) (a1 % 4) (a0 % 2) (a2 % 4) = true) := wa_alike _ _ _ HM.out (Or.inl ⟨h1, h2⟩)
      have X2 : Hid (wa (a0 % 2) (a2 % 4) (a0 % 2) (a1 % 4) = true) := wa_alike _ _ _ HM.out (Or.inl ⟨h2, h1⟩)
      clear h1 h2
      go_enter Yba.func6, Yba.ntmps6
      go_wp2_with fail
      refine (waits w.heap.size (w.heap.size + 1) (a0 % 2) (a1 % 4) (a0 % 2) (a1 % 4) true S1.out _ ?_ ?_ ?_ ?_).mono ?_
      · simp [go_sem]
      · simp [go_sem]
      · simp [go_sem]
      · simp [go_sem]
      rintro e w' ⟨rfl, n, rfl⟩
      go_wp2_with fail
      refine (waits w.heap.size w.heap.size (a0 % 2) (a1 % 4) (a0 % 2) (a1 % 4) true S1.out _ ?_ ?_ ?_ ?_).mono ?_
      · simp [go_sem]
      · simp [go_sem]
      · simp [go_sem]
      · simp [go_sem]
      rintro e w' ⟨rfl, n, rfl⟩
      go_wp2_with fail
      refine (waits w.heap.size (w.heap.size + 1 + 1) (a0 % 2) (a1 % 4) (a0 % 2) (a2 % 4) true X1.out _ ?_ ?_ ?_ ?_).mono ?_
      · simp [go_sem]
      · simp [go_sem]
      · simp [go_sem]
      · simp [go_sem]
      rintro e w' ⟨rfl, n, rfl⟩
      go_wp2_with fail
      refine (waits (w.heap.size + 1 + 1) w.heap.size (a0 % 2) (a2 % 4) (a0 % 2) (a1 % 4) true X2.out _ ?_ ?_ ?_ ?_).mono ?_
      · simp [go_sem]
      · simp [go_sem]
      · simp [go_sem]
      · simp [go_sem]
      rintro e w' ⟨rfl, n, rfl⟩
      go_wp2
      go_ret
      exact ⟨rfl, by repeat (first | exact Grown.refl _ | apply Grown.drewN | apply Grown.drew | apply Grown.alloc)⟩
    · have q1 : (a1 % 4 == 3) = true := by simpa using h1
      have q2 : (a2 % 4 == 3) = false := by simpa using h2
      have X1 : Hid (wa (a0 % 2) (a1 % 4) (a0 % 2) (a2 % 4) = false) := wa_mixed _ _ _ (Or.inl ⟨h1, h2⟩)
      have X2 : Hid (wa (a0 % 2) (a2 % 4) (a0 % 2) (a1 % 4) = false) := wa_mixed _ _ _ (Or.inr ⟨h2, h1⟩)
      clear h1 h2
      go_enter Yba.func6, Yba.ntmps6
      go_wp2_with fail
      refine (waits w.heap.size (w.heap.size + 1) (a0 % 2) (a1 % 4) (a0 % 2) (a1 % 4) true S1.out _ ?_ ?_ ?_ ?_).mono ?_
      · simp [go_sem]
      · simp [go_sem]
      · simp [go_sem]
      · simp [go_sem]
      rintro e w' ⟨rfl, n, rfl⟩
      go_wp2_with fail
      refine (waits w.heap.size w.heap.size (a0 % 2) (a1 % 4) (a0 % 2) (a1 % 4) true S1.out _ ?_ ?_ ?_ ?_).mono ?_
      · simp [go_sem]
      · simp [go_sem]
      · simp [go_sem]
      · simp [go_sem]
      rintro e w' ⟨rfl, n, rfl⟩
      go_wp2_with fail
      refine (waits w.heap.size (w.heap.size + 1 + 1) (a0 % 2) (a1 % 4) (a0 % 2) (a2 % 4) false X1.out _ ?_ ?_ ?_ ?_).mono ?_
      · simp [go_sem]
      · simp [go_sem]
      · simp [go_sem]
      · simp [go_sem]
      rintro e w' ⟨rfl, n, rfl⟩
      go_wp2_with fail
      refine (waits (w.heap.size + 1 + 1) w.heap.size (a0 % 2) (a2 % 4) (a0 % 2) (a1 % 4) false X2.out _ ?_ ?_ ?_ ?_).mono ?_
      · simp [go_sem]
      · simp [go_sem]
      · simp [go_sem]
      · simp [go_sem]
      rintro e w' ⟨rfl, n, rfl⟩
      go_wp2
      go_ret
      exact ⟨rfl, by repeat (first | exact Grown.refl _ | apply Grown.drewN | apply Grown.drew | apply Grown.alloc)⟩
  · by_cases h2 : a2 % 4 = 3
    · have q1 : (a1 % 4 == 3) = false := by simpa using h1
      have q2 : (a2 % 4 == 3) = true := by simpa using h2
      have X1 : Hid (wa (a0 % 2) (a1 % 4) (a0 % 2) (a2 % 4) = false) := wa_mixed _ _ _ (Or.inr ⟨h1, h2⟩)
      have X2 : Hid (wa (a0 % 2) (a2 % 4) (a0 % 2) (a1 % 4) = false) := wa_mixed _ _ _ (Or.inl ⟨h2, h1⟩)
      clear h1 h2
      go_enter Yba.func6, Yba.ntmps6
      go_wp2_with fail
      refine (waits w.heap.size (w.heap.size + 1) (a0 % 2) (a1 % 4) (a0 % 2) (a1 % 4) true S1.out _ ?_ ?_ ?_ ?_).mono ?_
      · simp [go_sem]
      · simp [go_sem]
      · simp [go_sem]
      · simp [go_sem]
      rintro e w' ⟨rfl, n, rfl⟩
      go_wp2_with fail
      refine (waits w.heap.size w.heap.size (a0 % 2) (a1 % 4) (a0 % 2) (a1 % 4) true S1.out _ ?_ ?_ ?_ ?_).mono ?_
      · simp [go_sem]
      · simp [go_sem]
      · simp [go_sem]
      · simp [go_sem]
      rintro e w' ⟨rfl, n, rfl⟩
      go_wp2_with fail
      refine (waits w.heap.size (w.heap.size + 1 + 1) (a0 % 2) (a1 % 4) (a0 % 2) (a2 % 4) false X1.out _ ?_ ?_ ?_ ?_).mono ?_
      · simp [go_sem]
      · simp [go_sem]
      · simp [go_sem]
      · simp [go_sem]
      rintro e w' ⟨rfl, n, rfl⟩
      go_wp2_with fail
      refine (waits (w.heap.size + 1 + 1) w.heap.size (a0 % 2) (a2 % 4) (a0 % 2) (a1 % 4) false X2.out _ ?_ ?_ ?_ ?_).mono ?_
      · simp [go_sem]
      · simp [go_sem]
      · simp [go_sem]
      · simp [go_sem]
      rintro e w' ⟨rfl, n, rfl⟩
      go_wp2
      go_ret
      exact ⟨rfl, by repeat (first | exact Grown.refl _ | apply Grown.drewN | apply Grown.drew | apply Grown.alloc)⟩
    · have q1 : (a1 % 4 == 3) = false := by simpa using h1
      have q2 : (a2 % 4 == 3) = false := by simpa using h2
      have X1 : Hid (wa (a0 % 2) (a1 % 4) (a0 % 2) (a2 % 4) = true) := wa_alike _ _ _ HM.out (Or.inr ⟨h1, h2⟩)
      have X2 : Hid (wa (a0 % 2) (a2 % 4) (a0 % 2) (a1 % 4) = true) := wa_alike _ _ _ HM.out (Or.inr ⟨h2, h1⟩)
      clear h1 h2
      go_enter Yba.func6, Yba.ntmps6
      go_wp2_with fail
      refine (waits w.heap.size (w.heap.size + 1) (a0 % 2) (a1 % 4) (a0 % 2) (a1 % 4) true S1.out _ ?_ ?_ ?_ ?_).mono ?_
      · simp [go_sem]
      · simp [go_sem]
      · simp [go_sem]
      · simp [go_sem]
      rintro e w' ⟨rfl, n, rfl⟩
      go_wp2_with fail
      refine (waits w.heap.size w.heap.size (a0 % 2) (a1 % 4) (a0 % 2) (a1 % 4) true S1.out _ ?_ ?_ ?_ ?_).mono ?_
      · simp [go_sem]
      · simp [go_sem]
      · simp [go_sem]
      · simp [go_sem]
      rintro e w' ⟨rfl, n, rfl⟩
      go_wp2_with fail
      refine (waits w.heap.size (w.heap.size + 1 + 1) (a0 % 2) (a1 % 4) (a0 % 2) (a2 % 4) true X1.out _ ?_ ?_ ?_ ?_).mono ?_
      · simp [go_sem]
      · simp [go_sem]
      · simp [go_sem]
      · simp [go_sem]
      rintro e w' ⟨rfl, n, rfl⟩
      go_wp2_with fail
      refine (waits (w.heap.size + 1 + 1) w.heap.size (a0 % 2) (a2 % 4) (a0 % 2) (a1 % 4) true X2.out _ ?_ ?_ ?_ ?_).mono ?_
      · simp [go_sem]
      · simp [go_sem]
      · simp [go_sem]
      · simp [go_sem]
      rintro e w' ⟨rfl, n, rfl⟩
      go_wp2
      go_ret
      exact ⟨rfl, by repeat (first | exact Grown.refl _ | apply Grown.drewN | apply Grown.drew | apply Grown.alloc)⟩

/-! ### THE ROW's STEP: WRITTEN OUT: LEAVE IT -/
set_option maxRecDepth 100000 in
theorem lifted (os : Os) (started : os.Started) (H : Type) (enc : TypeId × Value → H) :
    ReturnsInHanded {} Yba.checked os 6 .any (Rows.lawS4471BSelfSpec.pre6 enc Yba.prog Yba.f6 Rows.lawS4471BSelfRow.domain false) (Rows.lawS4471BSelfSpec.post enc Yba.prog Yba.f6 false true false false) := by
  refine returnsInHanded_of_change (C := Yba.checked) own started (by kernel_rfl) Yba.func6
    (ChangeSpec.witness6 (enc := enc) (C := Yba.checked) false ⟨#[], #[.int .u8 0, .int .u8 0, .int .u8 0], []⟩ 8 (by kernel_rfl) (by kernel_rfl) (by kernel_rfl) (by kernel_rfl)) ?_
  intro W base args ds gs before hval0 hW hcnd _
  have hval : ∀ (j : Nat) t v, Yba.f6.params[j]? = some t → args[j]? = some v → Value.okWide Yba.prog W .any base t v := hval0
  have hW' := hW
  obtain ⟨p, q, hA0, hV, rfl, hfz, hnd⟩ := hW
  have hA : DataW.TrodAll enc Yba.prog W 0 (fun _ => true) true Yba.f6.params.toList args.toList ds p := hA0
  rw [Yba.params6] at hA hval
  obtain ⟨v0, vs0, d0, ds0, p0, q0, hargs, rfl, rfl, h0, r0⟩ := trodAll_cons hA
  obtain ⟨v1, vs1, d1, ds1, p1, q1, rfl, rfl, rfl, h1, r1⟩ := trodAll_cons r0
  obtain ⟨v2, vs2, d2, ds2, p2, q2, rfl, rfl, rfl, h2, r2⟩ := trodAll_cons r1
  obtain ⟨rfl, rfl, rfl⟩ := trodAll_nil r2
  obtain rfl : args = #[v0, v1, v2] := by cases args; simp_all
  obtain ⟨rfl, rfl⟩ := trodVars_none hV
  obtain ⟨a0, rfl, rfl, rfl, w0⟩ := open_int Yba.underlying5 (hval 0 5 v0 rfl rfl) h0
  obtain ⟨a1, rfl, rfl, rfl, w1⟩ := open_int Yba.underlying5 (hval 1 5 v1 rfl rfl) h1
  obtain ⟨a2, rfl, rfl, rfl, w2⟩ := open_int Yba.underlying5 (hval 2 5 v2 rfl rfl) h2
  clear hA0 hval0
  simp only [List.append_nil] at hW'
  refine (walk a0 a1 a2 w0 w1 w2 W).mono fun e W' ⟨he, hg⟩ => ?_
  subst he
  exact ⟨_, rfl, post_of_same (pa := []) (pv := []) hW' (fun _ _ _ => (trodAll_cons_mk (shut_bool Yba.underlying4 _) trodAll_mk0)) (fun sp _ => (trodAll_cons_mk (shut_int Yba.underlying5 w0) (trodAll_cons_mk (shut_int Yba.underlying5 w1) (trodAll_cons_mk (shut_int Yba.underlying5 w2) trodAll_mk0)))) (fun _ _ => rfl) rfl
    (hg.frame _) hg.2.1 (ok_one (by kernel_rfl) rfl (okWide_bool_mk Yba.underlying4 _))⟩

theorem over : Rows.lawS4471BSelfRow.holds Yba.pinned (OpenSpec.ofChange Rows.lawS4471BSelfSpec) :=
  OpenClaim.holds_of_wide 6 Yba.f6 rfl rfl rfl rfl rfl rfl rfl ⟨rfl, rfl, rfl, rfl, rfl⟩ rfl rfl rfl rfl rfl (by kernel_rfl) Yba.func6 (by kernel_rfl)
    (of_decide_eq_true (by kernel_rfl)) (by unfold Func.isWrapper; first | (rw [if_pos (by decide +kernel)]; kernel_rfl) | (rw [if_neg (by decide +kernel)]; exact ⟨rfl, rfl⟩))
    (fun os started H enc _ => lifted os started H enc)

/-- ████ THE STATEMENT ████ -/
theorem proved : Rows.LawS4471BSelfSaid :=
  over
#print axioms proved
end Go.Proofs.Ybulkcnom.lawS4471BSelf
