/-
  Seat b4471a, Forward and Back: a region that draws its order and whose last store turns a cell that one of its loads reads: 'S holds till number z comes up'.
-/
import Derived.Test.YbulkcnomFin
namespace Go.Proofs.Ybulkcnom
open Go.RowKit
section
variable {P : Program} {ops : Array Oper} {Q : Exit → Act → World → Prop} {md : Region.Mode} {S : World → Prop} {z : Nat}
/-- Whatever order is picked from here on; S holds behind every operation but number z. -/
def wpAnyU (P : Program) (md : Region.Mode) (ops : Array Oper) (Q : Exit → Act → World → Prop) (S : World → Prop) (z : Nat) : Nat → Array Bool → Act → World → Prop
  | 0, listed, a, w => Region.ready md ops listed = [] ∧ Q .normal a w
  | fuel + 1, listed, a, w =>
    (Region.ready md ops listed = [] → Q .normal a w) ∧
    ∀ i ∈ Region.ready md ops listed, wpOp P ops Q i (fun a' w' => (i ≠ z → S w') ∧ wpAnyU P md ops Q S z fuel (listed.setIfInBounds i true) a' w') a w
theorem wpAny_of_until : ∀ (fuel : Nat) (listed : Array Bool) (a : Act) (w : World), wpAnyU P md ops Q S z fuel listed a w → wpAny P md ops Q fuel listed a w
  | 0, _, _, _, h => h
  | fuel + 1, _, _, _, h => ⟨h.1, fun i hi => wpOp_mono (fun a' w' h' => wpAny_of_until fuel _ a' w' h'.2) (h.2 i hi)⟩
theorem wpAnyU_first {i : Nat} {oi oz : Oper} {v : Value} (hi : ops[i]? = some oi) (hsel : ∀ (j : Nat) (o : Oper) cs b, ops[j]? = some o → o.op ≠ .select cs b)
    (hQ : ∀ c a w, Q (.panic c) (a.put oi.dst v) w → Q (.panic c) a w) (hz : ops[z]? = some oz) (hw : ∃ e ∈ oz.after, Region.binds md e = true ∧ e.on = i) :
    ∀ (fuel : Nat) (listed : Array Bool) (a : Act) (w : World),
      (∀ j oj, ops[j]? = some oj → j ≠ i → listed.getD j true = false → (∀ e ∈ oj.after, Region.binds md e = true → e.on ≠ i) → oi.apart ops oj = true) →
      i ∈ Region.ready md ops listed → YieldsIf P ops S oi v a → S w →
      wpAnyU P md ops Q S z fuel (listed.setIfInBounds i true) (a.put oi.dst v) w → wpAnyU P md ops Q S z (fuel + 1) listed a w := by
  intro fuel
  induction fuel with
  | zero =>
    intro listed a w _ hr hy hS H
    refine ⟨fun h => (by rw [h] at hr; cases hr), fun j hj => ?_⟩
    by_cases hji : j = i
    · subst hji; exact hy.wpOp hi hS ⟨fun _ => hS, H⟩
    · have := ready_mono hj hji
      rw [H.1] at this
      cases this
  | succ fuel ih =>
    intro listed a w hfree hr hy hS H
    refine ⟨fun h => (by rw [h] at hr; cases hr), fun j hj => ?_⟩
    by_cases hji : j = i
    · subst hji; exact hy.wpOp hi hS ⟨fun _ => hS, H⟩
    · have h1 := H.2 j (ready_mono hj hji)
      obtain ⟨hjun, oj, hoj, hall⟩ := mem_ready.1 hj
      have hnot : ∀ e ∈ oj.after, Region.binds md e = true → e.on ≠ i := fun e he hb heq => by
        have h1 := hall e he hb
        have h0 := (mem_ready.1 hr).1
        rw [heq] at h1
        rcases Nat.lt_or_ge i listed.size with h' | h'
        · simp [h'] at h0 h1; rw [h0] at h1; cases h1
        · simp [Array.getElem?_eq_none h'] at h1
      have hjz : j ≠ z := by
        intro e
        subst e
        rw [hz] at hoj
        simp at hoj
        subst hoj
        obtain ⟨e, he, hb, heq⟩ := hw
        exact hnot e he hb heq
      have h2 := wpOp_putIf hoj (hfree j oj hoj hji hjun hnot) (fun cs b => hsel i oi cs b hi) (fun cs b => hsel j oj cs b hoj) hQ hy h1
      have hfree' : ∀ k ok, ops[k]? = some ok → k ≠ i → (listed.setIfInBounds j true).getD k true = false →
          (∀ e ∈ ok.after, Region.binds md e = true → e.on ≠ i) → oi.apart ops ok = true := fun k ok hk hki hun hno => by
        refine hfree k ok hk hki ?_ hno
        by_cases hjk : j = k
        · subst hjk; exact hjun
        · rw [getD_set_ne true hjk] at hun; exact hun
      refine wpOp_mono (fun a' w' h3 => ⟨fun _ => h3.2.1 hjz, ih (listed.setIfInBounds j true) a' w' hfree' (ready_mono hr (Ne.symm hji)) h3.1 (h3.2.1 hjz) ?_⟩) h2
      rw [Array.setIfInBounds_comm _ _ hji]
      exact h3.2.2
/-- Number z waits for number i. -/
def waitsB (md : Region.Mode) (ops : Array Oper) (z i : Nat) : Bool := match ops[z]? with
  | some o => o.after.toList.any fun e => Region.binds md e && e.on == i
  | none => false
theorem wpAnyU_take {i : Nat} {oi : Oper} {v : Value} {fuel : Nat} {listed : Array Bool} {a : Act} {w : World} (hi : ops[i]? = some oi)
    (hs : Region.noSelect ops = true) (hf : Region.free md ops listed i = true) (hr : (Region.ready md ops listed).contains i = true) (hz : waitsB md ops z i = true)
    (hQ : ∀ c a w, Q (.panic c) (a.put oi.dst v) w → Q (.panic c) a w) (hy : YieldsIf P ops S oi v a) (hS : S w)
    (h : wpAnyU P md ops Q S z fuel (listed.setIfInBounds i true) (a.put oi.dst v) w) : wpAnyU P md ops Q S z (fuel + 1) listed a w := by
  unfold waitsB at hz
  cases hoz : ops[z]? with
  | none => simp [hoz] at hz
  | some oz =>
    simp only [hoz] at hz
    obtain ⟨e, he, h2⟩ := List.any_eq_true.1 hz
    simp only [Bool.and_eq_true, beq_iff_eq] at h2
    exact wpAnyU_first hi (Region.noSelect_spec hs) hQ hoz ⟨e, by simpa using he, h2.1, h2.2⟩ fuel listed a w (Region.free_spec hi hf) (by simpa using hr) hy hS h
def AllReadyU (P : Program) (md : Region.Mode) (ops : Array Oper) (Q : Exit → Act → World → Prop) (S : World → Prop) (z : Nat) (fuel : Nat) (listed : Array Bool) (a : Act) (w : World) (rs : List Nat) : Prop :=
  ∀ i ∈ rs, wpOp P ops Q i (fun a' w' => (i ≠ z → S w') ∧ wpAnyU P md ops Q S z fuel (listed.setIfInBounds i true) a' w') a w
theorem AllReadyU.nil {fuel : Nat} {listed : Array Bool} {a : Act} {w : World} : AllReadyU P md ops Q S z fuel listed a w [] := fun _ h => by cases h
theorem AllReadyU.cons {fuel : Nat} {listed : Array Bool} {a : Act} {w : World} {i : Nat} {o : Oper} {rs : List Nat} (ho : ops[i]? = some o)
    (h : ∀ K' : Act → World → Prop, Shut (∀ a w, (i ≠ z → S w) → ((i ≠ z → S w) → wpAnyU P md ops Q S z fuel (listed.setIfInBounds i true) a w) → K' a w) → if Region.wanted o (yielded ops a.tmps) = true then Oper.wp P o a w K' Q else K' (a.put o.dst undef) w)
    (hs : AllReadyU P md ops Q S z fuel listed a w rs) : AllReadyU P md ops Q S z fuel listed a w (i :: rs) := fun j hj => by
  rcases List.mem_cons.1 hj with rfl | hj
  · exact wpOp_step ho (fun K' hK => h K' (fun a w hS hW => hK a w ⟨hS, hW hS⟩))
  · exact hs j hj
theorem wpAnyU_ready {rs : List Nat} {fuel : Nat} {listed : Array Bool} {a : Act} {w : World} (hr : Region.ready md ops listed = rs) (hne : rs ≠ [])
    (h : AllReadyU P md ops Q S z fuel listed a w rs) : wpAnyU P md ops Q S z (fuel + 1) listed a w := ⟨fun h0 => absurd (hr ▸ h0) hne, hr ▸ h⟩
theorem wpAnyU_done {listed : Array Bool} {a : Act} {w : World} (hr : Region.ready md ops listed = []) (h : Q .normal a w) :
    ∀ fuel, wpAnyU P md ops Q S z fuel listed a w
  | 0 => ⟨hr, h⟩
  | _ + 1 => ⟨fun _ => h, by rw [hr]; simp⟩
theorem wp_region_until {id : Nat} {a : Act} {w : World} (hm : P.follows .mixedOrders = true) (hS : S w.drew)
    (h : S w.drew → wpAnyU P .any ops Q S z ops.size (Array.replicate ops.size false) a w.drew) : (Code.region id ops true).wp P Q a w :=
  wp_region_any hm (wpAny_of_until _ _ _ _ (h hS))
end
end Go.Proofs.Ybulkcnom
