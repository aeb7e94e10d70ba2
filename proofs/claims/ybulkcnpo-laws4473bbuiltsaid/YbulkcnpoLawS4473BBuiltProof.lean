/-
  Seat b4473a: the row's step, after the guide's template (an array by value, as IdRangearrayProofs.lean; 'Below' as the shells over slices).
-/
import Derived.Test.YbulkcnpoRows
import Derived.WalkKit
import Derived.ProofKit
import Derived.OpenShut
import Derived.ShutString
import Derived.Carry
import Derived.Test.YbulkcnpoWalk
namespace Go.Proofs.Ybulkcnpo.lawS4473BBuilt
open Go.ChangeShapes Go.WideShapes Go.ChangeAt Go.RowKit
set_option linter.unusedVariables false

theorem own : ownKnob Yba.prog.godebug = none := by kernel_rfl
theorem laidOut : laidOutB Yba.prog = true := by kernel_rfl
theorem cells22 : Yba.prog.cellsOf 22 = 13 := by kernel_rfl
theorem cells5 : Yba.prog.cellsOf 5 = 1 := by kernel_rfl

/-- The number in a cell. -/
def numAt (l : List Value) (i : Nat) : Int := match l[i]? with | some (.int _ a) => a | _ => 0
/-- Thirteen bytes, read as data, are thirteen cells that hold bytes. -/
theorem open_raw {H : Type} {enc : TypeId × Value → H} {W : World} {spare : Nat → Bool} {held : Bool} {base fuel : Nat} {l : List Value} {x : DataW H × List MemPlace} (hl : l.length = 13) (h : DataW.trod enc Yba.prog W base spare held fuel 22 l = some x) :
    l.toArray = arr (numAt l) ∧ ∀ i, i < 13 → 0 ≤ numAt l i ∧ numAt l i ≤ 255 := by
  obtain ⟨xs, m, _, _, _, hx, he⟩ := DataW.trod_array Yba.underlying22 h
  rw [cells5] at he
  have key : ∀ i, i < 13 → l[i]? = some (.int .u8 (numAt l i)) ∧ 0 ≤ numAt l i ∧ numAt l i ≤ 255 := fun i hi => by
    have h1 := he i hi
    rw [List.getElem?_eq_getElem (by omega : i < xs.length)] at h1
    obtain ⟨a, ea, _, wa⟩ := DataW.trod_int Yba.underlying5 h1
    have e2 : (l.drop (i * 1)).take 1 = [l[i]] := by
      rw [Nat.mul_one, List.drop_eq_getElem_cons (by omega : i < l.length)]
      rfl
    rw [e2] at ea
    simp only [List.cons.injEq, and_true] at ea
    have e3 : l[i]? = some (.int .u8 a) := by rw [List.getElem?_eq_getElem (by omega : i < l.length), ea]
    have e4 : numAt l i = a := by unfold numAt; rw [e3]
    rw [e4]
    exact ⟨e3, bounds_u8 wa⟩
  refine ⟨?_, fun i hi => (key i hi).2⟩
  apply Array.ext_getElem?
  intro i
  by_cases hi : i < 13
  · rw [arr_get _ i hi]
    simpa using (key i hi).1
  · rw [Array.getElem?_eq_none (by simp; omega), Array.getElem?_eq_none (by simp; omega)]

set_option maxRecDepth 100000 in
theorem lifted (os : Os) (started : os.Started) (H : Type) (enc : TypeId × Value → H) :
    ReturnsInHanded {} Yba.checked os 4 .any (Rows.lawS4473BBuiltSpec.pre6 enc Yba.prog Yba.f4 Rows.lawS4473BBuiltRow.domain false) (Rows.lawS4473BBuiltSpec.post enc Yba.prog Yba.f4 false true false false) := by
  refine returnsInHanded_of_change (C := Yba.checked) own started (by kernel_rfl) Yba.func4
    (ChangeSpec.witness6 (enc := enc) (C := Yba.checked) false ⟨#[], #[.agg (arr fun _ => 0), .int .u8 0, .int .u8 0], []⟩ 8 (by kernel_rfl) (by kernel_rfl) (by kernel_rfl) (by kernel_rfl)) ?_
  intro W base args ds gs before hval0 hW hcnd _
  have hval : ∀ (j : Nat) t v, Yba.f4.params[j]? = some t → args[j]? = some v → Value.okWide Yba.prog W .any base t v := hval0
  have hW' := hW
  obtain ⟨p, q, hA0, hV, rfl, hfz, hnd⟩ := hW
  have hA : DataW.TrodAll enc Yba.prog W 0 (fun _ => true) true Yba.f4.params.toList args.toList ds p := hA0
  rw [Yba.params4] at hA hval
  obtain ⟨v0, vs0, d0, ds0, p0, q0, hargs, rfl, rfl, h0, r0⟩ := trodAll_cons hA
  obtain ⟨v1, vs1, d1, ds1, p1, q1, rfl, rfl, rfl, h1, r1⟩ := trodAll_cons r0
  obtain ⟨v2, vs2, d2, ds2, p2, q2, rfl, rfl, rfl, h2, r2⟩ := trodAll_cons r1
  obtain ⟨rfl, rfl, rfl⟩ := trodAll_nil r2
  obtain rfl : args = #[v0, v1, v2] := by cases args; simp_all
  obtain ⟨rfl, rfl⟩ := trodVars_none hV
  obtain ⟨cs, rfl, hsz, _⟩ : ∃ cs, v0 = .agg cs ∧ cs.size = Yba.prog.cellsOf 22 ∧ Row.okWide Yba.prog W .any base 22 cs := by
    have := hval 0 22 v0 rfl rfl
    simpa [Value.okWide, Yba.underlying22] using this
  rw [cells22] at hsz
  have k0 := h0
  have lt0 : ∀ x ∈ p0, x.block < W.heap.size := by obtain ⟨m, hm⟩ := k0; exact DataW.trod_lt m _ _ _ hm
  obtain ⟨rr, hrr, hb⟩ : ∃ r : Nat → Int, cs = arr r ∧ ∀ i, i < 13 → 0 ≤ r i ∧ r i ≤ 255 := by
    obtain ⟨fuel, hf⟩ := h0
    obtain ⟨l⟩ := cs
    have := open_raw (l := l) (by simpa using hsz) hf
    exact ⟨_, this.1, this.2⟩
  subst hrr
  obtain ⟨a1, rfl, rfl, rfl, w1⟩ := open_int Yba.underlying5 (hval 1 5 v1 rfl rfl) h1
  obtain ⟨a2, rfl, rfl, rfl, w2⟩ := open_int Yba.underlying5 (hval 2 5 v2 rfl rfl) h2
  clear hA0 hval0
  refine (walk rr hb a1 a2 (bounds_u8 w1).1 (bounds_u8 w1).2 (bounds_u8 w2).1 (bounds_u8 w2).2 W).mono fun e W' ⟨he, bel⟩ => ?_
  subst he
  exact ⟨_, rfl, _, _, _, [], _, [], hW', trodAll_mk1 (shut_bool Yba.underlying4 _), (trodAll_cons_mk (Below.trod laidOut (by kernel_rfl) (of_decide_eq_true (by kernel_rfl)) k0 bel lt0) (trodAll_cons_mk (shut_int Yba.underlying5 w1) (trodAll_cons_mk (shut_int Yba.underlying5 w2) trodAll_mk0))), rfl, bel.frame _, fun h => by cases h⟩

theorem over : Rows.lawS4473BBuiltRow.holds Yba.pinned (OpenSpec.ofChange Rows.lawS4473BBuiltSpec) :=
  OpenClaim.holds_of_wide 4 Yba.f4 rfl rfl rfl rfl rfl rfl rfl ⟨rfl, rfl, rfl, rfl, rfl⟩ rfl rfl rfl rfl rfl (by kernel_rfl) Yba.func4 (by kernel_rfl)
    (of_decide_eq_true (by kernel_rfl)) (by unfold Func.isWrapper; first | (rw [if_pos (by decide +kernel)]; kernel_rfl) | (rw [if_neg (by decide +kernel)]; exact ⟨rfl, rfl⟩))
    (fun os started H enc _ => lifted os started H enc)

/-- The given statement. -/
theorem proved : Rows.LawS4473BBuiltSaid := over
#print axioms proved
end Go.Proofs.Ybulkcnpo.lawS4473BBuilt
