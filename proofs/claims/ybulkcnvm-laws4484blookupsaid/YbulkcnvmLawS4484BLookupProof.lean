/-
  Seat b4484a: the row's step, after the guide's template: two slices of strings, three integers, a string; the form's own reach bounds each string.
-/
import Derived.Test.YbulkcnvmRows
import Derived.WalkKit
import Derived.ProofKit
import Derived.OpenShut
import Derived.ShutString
import Derived.Carry
import Derived.SizedLaws
import Derived.SliceStrings
import Derived.Test.YbulkcnvmWays
namespace Go.Proofs.Ybulkcnvm.lawS4484BLookup
open Go.ChangeShapes Go.WideShapes Go.ChangeAt Go.RowKit
open Go.ChangeMaps (open_string shut_string)
set_option linter.unusedVariables false

theorem own : ownKnob Yba.prog.godebug = none := by kernel_rfl
theorem laidOut : laidOutB Yba.prog = true := by kernel_rfl
theorem cells9 : Yba.prog.cellsOf 9 = 1 := by kernel_rfl

theorem mem_weightsAll {H : Type} (P : Program) (e : TypeId) : ∀ (l : List (DataW H)) (d : DataW H), d ∈ l → ∀ n ∈ d.weights P e, n ∈ DataW.weightsAll P e l
  | x :: r, d, hd, n, hn => by
    simp only [DataW.weightsAll, List.mem_append]
    rcases List.mem_cons.1 hd with rfl | hd
    · exact Or.inl hn
    · exact Or.inr (mem_weightsAll P e r d hd n hn)
/-- A slice of strings, read as data within the reach, is what the walks ask of it. -/
theorem keys_of {H : Type} {enc : TypeId × Value → H} {W : World} {ts : List TypeId} {ds : List (DataW H)} {a : Option Addr} {n cap : Nat} {d : DataW H} {p : List MemPlace} {j : Nat}
    (h : DataW.Trod enc Yba.prog W 0 (fun _ => true) true 22 (.slice a n cap) d p) (hsz : (DataW.weightsEach Yba.prog ts ds).all (· ≤ reachBytes) = true) (ht : ts[j]? = some 22) (hd : ds[j]? = some d) :
    ∃ ss, Keys W a n ss := by
  obtain ⟨fuel, hf⟩ := h
  rcases open_strings Yba.underlying22 Yba.underlying9 cells9 hf with ⟨hcs, hx⟩ | ⟨x, len', cap', ss, hcs, _, hl, hm, hz, hx, hcell, hws⟩
  · simp [Value.cells] at hcs
    obtain ⟨rfl, rfl, rfl⟩ := hcs
    exact ⟨fun _ => ByteArray.empty, Or.inl rfl⟩
  · simp [Value.cells] at hcs
    obtain ⟨rfl, rfl, rfl⟩ := hcs
    simp only [if_true] at hz
    simp only [Prod.mk.injEq] at hx
    obtain ⟨rfl, rfl⟩ := hx
    by_cases h0 : n = 0
    · exact ⟨fun _ => ByteArray.empty, Or.inl h0⟩
    · obtain ⟨b, off, spot⟩ := x
      have hspot : spot = none := by simpa [Addr.add] using World.cell?_spot (hcell 0 (by omega))
      subst hspot
      have hadd : ∀ i, (⟨b, off, none⟩ : Addr).add i = ⟨b, off + i, none⟩ := fun i => by unfold Addr.add; split <;> simp_all
      refine ⟨fun i => ss.getD i ByteArray.empty, Or.inr ⟨b, off, rfl, ?_, fun i hi => ⟨by rw [← hadd]; exact hcell i (by omega), ?_⟩⟩⟩
      · exact World.block_lt_of_cell? W ⟨b, off, none⟩ (by have := hcell 0 (by omega); rw [hadd] at this; simpa using this)
      · have hlt : i < ss.length := by omega
        have hmem : (DataW.lit (.string (ss.getD i ByteArray.empty).data.toList) : DataW H) ∈ strs (ss.take n) := by
          refine List.mem_map.2 ⟨ss.getD i ByteArray.empty, ?_, rfl⟩
          rw [List.getD_eq_getElem?_getD, List.getElem?_eq_getElem hlt, Option.getD_some, List.mem_take_iff_getElem]
          exact ⟨i, by omega, rfl⟩
        have hw := List.all_eq_true.1 hsz _ (DataW.weights_mem_each ht hd (ss.getD i ByteArray.empty).data.toList.length (by
          simp only [DataW.weights, Yba.underlying22, List.mem_cons, List.mem_append]
          exact Or.inr (Or.inl (mem_weightsAll Yba.prog 9 _ _ hmem _ (by simp [DataW.weights])))))
        have e : (ss.getD i ByteArray.empty).data.toList.length = (ss.getD i ByteArray.empty).size := by simp
        rw [e] at hw
        simpa [reachBytes] using hw

set_option maxRecDepth 100000 in
theorem lifted (os : Os) (started : os.Started) (H : Type) (enc : TypeId × Value → H) :
    ReturnsInHanded {} Yba.checked os 3 .any (Rows.lawS4484BLookupSpec.pre6 enc Yba.prog Yba.f3 Rows.lawS4484BLookupRow.domain false) (Rows.lawS4484BLookupSpec.post enc Yba.prog Yba.f3 false true false false) := by
  refine returnsInHanded_of_change_sized (C := Yba.checked) own started (by kernel_rfl) Yba.func3
    (ChangeSpec.witness6 (enc := enc) (C := Yba.checked) false ⟨#[], #[.slice none 0 0, .slice none 0 0, .int .u64 0, .int .u64 0, .int .u16 0, .string ByteArray.empty], []⟩ 8 (by kernel_rfl) (by kernel_rfl) (by kernel_rfl) (by kernel_rfl)) ?_
  intro W base args ds gs before hval0 hW hcnd hsz0 _
  have hval : ∀ (j : Nat) t v, Yba.f3.params[j]? = some t → args[j]? = some v → Value.okWide Yba.prog W .any base t v := hval0
  have hsz : (DataW.weightsEach Yba.prog (Yba.f3.params.toList ++ Rows.lawS4484BLookupSpec.plain.varTypes Yba.prog) (ds ++ gs)).all (· ≤ reachBytes) = true := hsz0
  have hW' := hW
  obtain ⟨p, q, hA0, hV, rfl, hfz, hnd⟩ := hW
  have hA : DataW.TrodAll enc Yba.prog W 0 (fun _ => true) true Yba.f3.params.toList args.toList ds p := hA0
  rw [Yba.params3] at hA hval hsz
  obtain ⟨v0, vs0, d0, ds0, p0, q0, hargs, rfl, rfl, h0, r0⟩ := trodAll_cons hA
  obtain ⟨v1, vs1, d1, ds1, p1, q1, rfl, rfl, rfl, h1, r1⟩ := trodAll_cons r0
  obtain ⟨v2, vs2, d2, ds2, p2, q2, rfl, rfl, rfl, h2, r2⟩ := trodAll_cons r1
  obtain ⟨v3, vs3, d3, ds3, p3, q3, rfl, rfl, rfl, h3, r3⟩ := trodAll_cons r2
  obtain ⟨v4, vs4, d4, ds4, p4, q4, rfl, rfl, rfl, h4, r4⟩ := trodAll_cons r3
  obtain ⟨v5, vs5, d5, ds5, p5, q5, rfl, rfl, rfl, h5, r5⟩ := trodAll_cons r4
  obtain ⟨rfl, rfl, rfl⟩ := trodAll_nil r5
  obtain rfl : args = #[v0, v1, v2, v3, v4, v5] := by cases args; simp_all
  obtain ⟨rfl, rfl⟩ := trodVars_none hV
  obtain ⟨a0, len0, cap0, rfl⟩ := okWide_slice Yba.underlying22 (hval 0 22 v0 rfl rfl)
  obtain ⟨a1, len1, cap1, rfl⟩ := okWide_slice Yba.underlying22 (hval 1 22 v1 rfl rfl)
  have lt0 : ∀ x ∈ p0, x.block < W.heap.size := by obtain ⟨m, hm⟩ := h0; exact DataW.trod_lt m _ _ _ hm
  have lt1 : ∀ x ∈ p1, x.block < W.heap.size := by obtain ⟨m, hm⟩ := h1; exact DataW.trod_lt m _ _ _ hm
  obtain ⟨ss0, k0⟩ := keys_of (j := 0) h0 hsz rfl rfl
  obtain ⟨ss1, k1⟩ := keys_of (j := 1) h1 hsz rfl rfl
  obtain ⟨a2, rfl, rfl, rfl, w2⟩ := open_int Yba.underlying23 (hval 2 23 v2 rfl rfl) h2
  obtain ⟨a3, rfl, rfl, rfl, w3⟩ := open_int Yba.underlying23 (hval 3 23 v3 rfl rfl) h3
  obtain ⟨a4, rfl, rfl, rfl, w4⟩ := open_int Yba.underlying24 (hval 4 24 v4 rfl rfl) h4
  obtain ⟨s5, rfl, rfl, rfl, hs5⟩ := open_string Yba.underlying9 (hval 5 9 v5 rfl rfl) h5
  have hq := sized_string hsz (j := 5) (t := 9) (bytes := s5.data.toList) rfl rfl
  have hq' : s5.size ≤ 140737488351232 := by
    have e : s5.data.toList.length = s5.size := by simp
    rw [e] at hq
    simpa [reachBytes] using hq
  clear hA0 hval0 hsz0
  refine (walk a0 len0 cap0 ss0 a1 len1 cap1 ss1 a2 a3 a4 s5 W k0 k1 hq' (bounds_u16 w4).1 (bounds_u16 w4).2).mono fun e W' ⟨he, bel⟩ => ?_
  subst he
  exact ⟨_, rfl, _, _, _, [], _, [], hW', trodAll_mk1 (shut_bool Yba.underlying4 _), (trodAll_cons_mk (Below.trod laidOut (by kernel_rfl) (of_decide_eq_true (by kernel_rfl)) h0 bel lt0) (trodAll_cons_mk (Below.trod laidOut (by kernel_rfl) (of_decide_eq_true (by kernel_rfl)) h1 bel lt1) (trodAll_cons_mk (shut_int Yba.underlying23 w2) (trodAll_cons_mk (shut_int Yba.underlying23 w3) (trodAll_cons_mk (shut_int Yba.underlying24 w4) (trodAll_cons_mk (shut_string Yba.underlying9 hs5) trodAll_mk0)))))), rfl, bel.frame _, fun h => by cases h⟩

theorem over : Rows.lawS4484BLookupRow.holds Yba.pinned (OpenSpec.ofChange Rows.lawS4484BLookupSpec) :=
  OpenClaim.holds_of_wide 3 Yba.f3 rfl rfl rfl rfl rfl rfl rfl ⟨rfl, rfl, rfl, rfl, rfl⟩ rfl rfl rfl rfl rfl (by kernel_rfl) Yba.func3 (by kernel_rfl)
    (of_decide_eq_true (by kernel_rfl)) (by unfold Func.isWrapper; first | (rw [if_pos (by decide +kernel)]; kernel_rfl) | (rw [if_neg (by decide +kernel)]; exact ⟨rfl, rfl⟩))
    (fun os started H enc _ => lifted os started H enc)

/-- The given statement. -/
theorem proved : Rows.LawS4484BLookupSaid := over
#print axioms proved
end Go.Proofs.Ybulkcnvm.lawS4484BLookup
