/-
  Seat b4484a: the words: pointers to definitions as map elements, the last pointer stored under a name, keys that came in.
-/
import Derived.Test.YbulkcnvmRows
import Derived.WalkKit
import Derived.WalkSpells
import Derived.ProofKit
import Derived.Maps.OwnSet
import Derived.Maps.OwnOps
namespace Go.Proofs.Ybulkcnvm
open Go.RowKit Go.Maps
open Go.WideMaps (keyOf_string_mk)

/-- A pointer to the first cell of a block, or nil. -/
def pv : Option Nat → Value | none => .pointer none | some b => .pointer (some ⟨b, 0, none⟩)
def dat : Option Nat → DataW Unit | none => .nil | some b => .lit (.int .i64 b)
/-- How such a pointer reads as a map's element: through no place. -/
def ptrElem : Value → Option (DataW Unit × List MemPlace)
  | .pointer none => some (.nil, [])
  | .pointer (some a) => if a.off = 0 ∧ a.spot = none then some (.lit (.int .i64 a.block), []) else none
  | _ => none
theorem ptrElem_pv (o : Option Nat) : ptrElem (pv o) = some (dat o, []) := by cases o <;> simp [pv, ptrElem, dat]
theorem ptrElem_inv {v : Value} {o : Option Nat} {ps : List MemPlace} (h : ptrElem v = some (dat o, ps)) : v = pv o := by
  cases v with
  | pointer p =>
    cases p with
    | none => cases o <;> simp [ptrElem, dat] at h; rfl
    | some a =>
      obtain ⟨b, off, spot⟩ := a
      simp only [ptrElem] at h
      split at h
      · rename_i hc
        obtain ⟨h1, h2⟩ := hc
        subst h1; subst h2
        cases o with
        | none => simp [dat] at h
        | some c =>
          simp [dat] at h
          have : b = c := by omega
          subst this
          rfl
      · cases h
  | _ => simp [ptrElem] at h

theorem law9 : Keyed Yba.prog 9 := string_keyed Yba.underlying9
theorem zero38 (w : World) : (zeroValue 38).run Yba.prog w = .ok (.pointer none) w := by kernel_rfl
abbrev kl (s : ByteArray) : Lit := .string s.data.toList

/-- The look-up in such a map. -/
theorem look {w : World} {m n : Nat} {D : DataW Unit} (hown : w.ownsMap Yba.prog 9 ptrElem m n D) {s : ByteArray} (hs : s.size ≤ maxLen) {o : Option Nat} (hat : D.atKey (kl s) .nil = dat o) :
    Sem.run Yba.prog (Instr.lookup 25 (.map (some m)) (.string s) false) w = .ok (pv o) w := by
  obtain ⟨v, ps, hrun, hv⟩ := hown.lookup law9 Yba.underlying25 (zero38 w) (zd := .nil) (zp := []) rfl (keyOf_string_mk Yba.underlying9 hs)
  rw [hat] at hv
  rw [hrun, ptrElem_inv hv]
theorem mapLen {w : World} {m n : Nat} {D : DataW Unit} (hown : w.ownsMap Yba.prog 9 ptrElem m n D) (ty : TypeId) :
    Sem.run Yba.prog (Builtin.len_ #[25] ty #[.map (some m)]) w = .ok (.int .i64 (Maps.size D)) w := hown.len Yba.underlying25 ty

/-- The pointer stored last under s among the first k. -/
def lastp (ss : Nat → ByteArray) (q : Nat → Option Nat) : Nat → ByteArray → Option Nat
  | 0, _ => none
  | k + 1, s => if ss k = s then q k else lastp ss q k s
theorem lastp_congr {ss : Nat → ByteArray} {q q' : Nat → Option Nat} (s : ByteArray) : ∀ k, (∀ i, i < k → q i = q' i) → lastp ss q k s = lastp ss q' k s
  | 0, _ => rfl
  | k + 1, h => by
    simp only [lastp, h k (by omega), lastp_congr s k (fun i hi => h i (by omega))]
theorem kl_inj {s t : ByteArray} (h : kl s = kl t) : s = t := by
  simp only [kl, Lit.string.injEq] at h
  obtain ⟨⟨a⟩⟩ := s
  obtain ⟨⟨b⟩⟩ := t
  simp at h
  subst h
  rfl
/-- What the map holds, key by key. -/
def Holds (D : DataW Unit) (f : ByteArray → Option Nat) : Prop := IsMap D ∧ ∀ s, D.atKey (kl s) .nil = dat (f s)
theorem holds_start : Holds (.map []) (fun _ => none) := ⟨isMap_empty, fun _ => rfl⟩
theorem Holds.put {D : DataW Unit} {f : ByteArray → Option Nat} (h : Holds D f) (s : ByteArray) (o : Option Nat) : Holds (D.put (kl s) (dat o)) (fun t => if s = t then o else f t) := by
  refine ⟨h.1.put _ _, fun t => ?_⟩
  by_cases e : s = t
  · subst e
    show _ = dat (if s = s then o else f s)
    rw [if_pos rfl, atKey_put_same h.1 (show WideAt.IsKeyLit (kl s) from trivial)]
  · show _ = dat (if s = t then o else f t)
    rw [if_neg e, atKey_put_other (fun e' => e (kl_inj e').symm), h.2 t]
end Go.Proofs.Ybulkcnvm
