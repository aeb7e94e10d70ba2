/-
  No cell of these rows narrows 'for every input' (looked for: loops, veiled, ifaces, maps, wideKeys, modest, calm, conditions, laid).
  DERIVED. THE GIVEN ROWS OF THIS SEAT. 1 by the template 'for every input the law returns true; each argument reads behind the call as it read before'; 0 by the template 'total and deterministic' (their statements: YbulkcnvmTotals.lean).
  GIVEN WITH THE SEED: the statements are not yours to turn. If you find one false, say at which input.
  Laid BY PROGRAM, IN A SANDBOX (cutbox-rows.mjs): the forced cells as the released guide's own fill.sh prints them over the translation 6118f5e8a5f53cdb… (all of the seat's roots in one cut). By AI agents, Wed Nov 11 2026. No macro, syntax, notation, axiom, sorry.
-/
import Derived.Test.YbulkcnvmChecked
import GoSem.Claim
import GoSem.ClaimJoined
import GoSem.ClaimMapViews
import Derived.JoinedTies
import Derived.KernelRfl
namespace Go.Proofs.Ybulkcnvm
/- THE CELL 'sum', in the pinned program and in every row, IS THE sha256 OF THE DUMP (.gsa) THAT YbulkcnvmProg.lean LOADS. Nothing in Lean hashes anything: it is a label: what it is worth is what the hold of that sum in a sandbox is worth. -/
noncomputable def Yba.pinned : Pinned := { name := "ybulkcnvm", sum := "6118f5e8a5f53cdb5209e14e5d25363e0c3338ccd57e2e8b5f28050ae5ddb81e", checked := Yba.checked }
namespace Rows
def none {H : Type} : Left H := { results := [], args := [] }

/-- 'eval.LawS4484BLookup': WHATEVER THE INPUT: true; the input reads as it did. -/
def lawS4484BLookupSpec : ChangeSpec := { name := "lawS4484BLookup", fn := fun _ => fun
  | [d1, d2, d3, d4, d5, d6] => { results := [.lit (.bool true)], args := [d1, d2, d3, d4, d5, d6] }
  | _ => none }
def lawS4484BLookupRow : OpenClaim := { program := "ybulkcnvm", sum := "6118f5e8a5f53cdb5209e14e5d25363e0c3338ccd57e2e8b5f28050ae5ddb81e", func := "example.com/lockstep/lockstep/pkg/eval.LawS4484BLookup", spec := "lawS4484BLookup", apart := false }
def LawS4484BLookupSaid : Prop := lawS4484BLookupRow.holds Yba.pinned (OpenSpec.ofChange lawS4484BLookupSpec)

/-- ITS FALSE NEIGHBOUR: 'it returns false'. Refute it at one input. -/
def lawS4484BLookupWrong : ChangeSpec := { name := "lawS4484BLookup", fn := fun _ => fun
  | [d1, d2, d3, d4, d5, d6] => { results := [.lit (.bool false)], args := [d1, d2, d3, d4, d5, d6] }
  | _ => none }
def LawS4484BLookupWrongFalsely : Prop := lawS4484BLookupRow.holds Yba.pinned (OpenSpec.ofChange lawS4484BLookupWrong)

end Rows
end Go.Proofs.Ybulkcnvm
