/-
  Seat b4471a, Forward and Back: pointers that are the same; the laws' small calls.
-/
import Derived.Test.YbulkcnomFromPlace
import Derived.LaidEqlPtr
namespace Go.Proofs.Ybulkcnom
open Go.RowKit
theorem info56s : (Yba.prog.info? 56).map (·.size) = some 4 := by kernel_rfl
theorem info85s : (Yba.prog.info? 85).map (·.size) = some 4 := by kernel_rfl
theorem equalIn_ptr {P : Program} (w : World) {tp te : TypeId} {j : TypeInfo} (d : Nat) (a : Addr) (hp : P.underlying tp = some (.pointer te)) (hte : P.info? te = some j) : (Op.equalIn (d + 1) tp (.pointer (some a)) (.pointer (some a))).run P w = .ok true w := by
  simp [Op.equalIn, run_underlying hp, sizeOf, typeInfo, hte, run_sameAddr_same]
theorem neq23 (a : Addr) (w : World) : (binOp .neq 23 (.pointer (some a)) (.pointer (some a))).run Yba.prog w = .ok (.bool false) w := by
  cases hq : Yba.prog.info? 56 with
  | none => have := info56s; simp [hq] at this
  | some j =>
    have h := fun d => equalIn_ptr w d a Yba.underlying23 hq
    simp only [binOp]
    simp [Op.equal, Op.maxDepth, h 9999]
theorem eqIn33 (d : Nat) (a : Addr) (w : World) : (Op.equalIn (d + 1) 33 (.pointer (some a)) (.pointer (some a))).run Yba.prog w = .ok true w := by
  cases hq : Yba.prog.info? 85 with
  | none => have := info85s; simp [hq] at this
  | some j => exact equalIn_ptr w d a Yba.underlying33 hq
end Go.Proofs.Ybulkcnom
