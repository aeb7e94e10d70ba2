/-
  No cell of these rows narrows 'for every input' (looked for: loops, veiled, ifaces, maps, wideKeys, modest, calm, conditions, laid).
  DERIVED. THE GIVEN ROWS OF THIS SEAT. 4 by the template 'for every input the law returns true; each argument reads behind the call as it read before'; 0 by the template 'total and deterministic' (their statements: YbulkcnomTotals.lean).
  GIVEN WITH THE SEED: the statements are not yours to turn. If you find one false, say at which input.
  Laid BY PROGRAM, IN A SANDBOX (cutbox-rows.mjs): the forced cells as the released guide's own fill.sh prints them over the translation 613e58a6557aa2cd… (all of the seat's roots in one cut). By AI agents, Wed Nov 11 2026. No macro, syntax, notation, axiom, sorry.
-/
import Derived.Test.YbulkcnomChecked
import GoSem.Claim
import GoSem.ClaimJoined
import GoSem.ClaimMapViews
import Derived.JoinedTies
import Derived.KernelRfl
namespace Go.Proofs.Ybulkcnom
/- THE CELL 'sum', in the pinned program and in every row, IS THE sha256 OF THE DUMP (.gsa) THAT YbulkcnomProg.lean LOADS. Nothing in Lean hashes anything: it is a label: what it is worth is what the hold of that sum in a sandbox is worth. -/
noncomputable def Yba.pinned : Pinned := { name := "ybulkcnom", sum := "613e58a6557aa2cdbb3ff7e36d83cc66508540280f2bf002ba754c5fc1880db2", checked := Yba.checked }
namespace Rows
def none {H : Type} : Left H := { results := [], args := [] }

/-- 'store.LawS4471AForward': WHATEVER THE INPUT: true; the input reads as it did. -/
def lawS4471AForwardSpec : ChangeSpec := { name := "lawS4471AForward", fn := fun _ => fun
  | [d1, d2, d3, d4] => { results := [.lit (.bool true)], args := [d1, d2, d3, d4] }
  | _ => none }
def lawS4471AForwardRow : OpenClaim := { program := "ybulkcnom", sum := "613e58a6557aa2cdbb3ff7e36d83cc66508540280f2bf002ba754c5fc1880db2", func := "example.com/gapkeeper/gapkeeper/internal/store.LawS4471AForward", spec := "lawS4471AForward", inPlace := ["internal/bytealg.abigen_runtime_cmpstring"], unfollowed := true, recurses := true, apart := false }
def LawS4471AForwardSaid : Prop := lawS4471AForwardRow.holds Yba.pinned (OpenSpec.ofChange lawS4471AForwardSpec)

/-- ITS FALSE NEIGHBOUR: 'it returns false'. Refute it at one input. -/
def lawS4471AForwardWrong : ChangeSpec := { name := "lawS4471AForward", fn := fun _ => fun
  | [d1, d2, d3, d4] => { results := [.lit (.bool false)], args := [d1, d2, d3, d4] }
  | _ => none }
def LawS4471AForwardWrongFalsely : Prop := lawS4471AForwardRow.holds Yba.pinned (OpenSpec.ofChange lawS4471AForwardWrong)

/-- 'store.LawS4471ABack': WHATEVER THE INPUT: true; the input reads as it did. -/
def lawS4471ABackSpec : ChangeSpec := { name := "lawS4471ABack", fn := fun _ => fun
  | [d1, d2, d3, d4] => { results := [.lit (.bool true)], args := [d1, d2, d3, d4] }
  | _ => none }
def lawS4471ABackRow : OpenClaim := { program := "ybulkcnom", sum := "613e58a6557aa2cdbb3ff7e36d83cc66508540280f2bf002ba754c5fc1880db2", func := "example.com/gapkeeper/gapkeeper/internal/store.LawS4471ABack", spec := "lawS4471ABack", inPlace := ["internal/bytealg.abigen_runtime_cmpstring"], unfollowed := true, recurses := true, apart := false }
def LawS4471ABackSaid : Prop := lawS4471ABackRow.holds Yba.pinned (OpenSpec.ofChange lawS4471ABackSpec)

/-- ITS FALSE NEIGHBOUR: 'it returns false'. Refute it at one input. -/
def lawS4471ABackWrong : ChangeSpec := { name := "lawS4471ABack", fn := fun _ => fun
  | [d1, d2, d3, d4] => { results := [.lit (.bool false)], args := [d1, d2, d3, d4] }
  | _ => none }
def LawS4471ABackWrongFalsely : Prop := lawS4471ABackRow.holds Yba.pinned (OpenSpec.ofChange lawS4471ABackWrong)

/-- 'lock.LawS4471BTable': WHATEVER THE INPUT: true; the input reads as it did. -/
def lawS4471BTableSpec : ChangeSpec := { name := "lawS4471BTable", fn := fun _ => fun
  | [d1, d2, d3, d4] => { results := [.lit (.bool true)], args := [d1, d2, d3, d4] }
  | _ => none }
def lawS4471BTableRow : OpenClaim := { program := "ybulkcnom", sum := "613e58a6557aa2cdbb3ff7e36d83cc66508540280f2bf002ba754c5fc1880db2", func := "example.com/gapkeeper/gapkeeper/internal/lock.LawS4471BTable", spec := "lawS4471BTable", apart := false }
def LawS4471BTableSaid : Prop := lawS4471BTableRow.holds Yba.pinned (OpenSpec.ofChange lawS4471BTableSpec)

/-- ITS FALSE NEIGHBOUR: 'it returns false'. Refute it at one input. -/
def lawS4471BTableWrong : ChangeSpec := { name := "lawS4471BTable", fn := fun _ => fun
  | [d1, d2, d3, d4] => { results := [.lit (.bool false)], args := [d1, d2, d3, d4] }
  | _ => none }
def LawS4471BTableWrongFalsely : Prop := lawS4471BTableRow.holds Yba.pinned (OpenSpec.ofChange lawS4471BTableWrong)

/-- 'lock.LawS4471BSelf': WHATEVER THE INPUT: true; the input reads as it did. -/
def lawS4471BSelfSpec : ChangeSpec := { name := "lawS4471BSelf", fn := fun _ => fun
  | [d1, d2, d3] => { results := [.lit (.bool true)], args := [d1, d2, d3] }
  | _ => none }
def lawS4471BSelfRow : OpenClaim := { program := "ybulkcnom", sum := "613e58a6557aa2cdbb3ff7e36d83cc66508540280f2bf002ba754c5fc1880db2", func := "example.com/gapkeeper/gapkeeper/internal/lock.LawS4471BSelf", spec := "lawS4471BSelf", apart := false }
def LawS4471BSelfSaid : Prop := lawS4471BSelfRow.holds Yba.pinned (OpenSpec.ofChange lawS4471BSelfSpec)

/-- ITS FALSE NEIGHBOUR: 'it returns false'. Refute it at one input. -/
def lawS4471BSelfWrong : ChangeSpec := { name := "lawS4471BSelf", fn := fun _ => fun
  | [d1, d2, d3] => { results := [.lit (.bool false)], args := [d1, d2, d3] }
  | _ => none }
def LawS4471BSelfWrongFalsely : Prop := lawS4471BSelfRow.holds Yba.pinned (OpenSpec.ofChange lawS4471BSelfWrong)

end Rows
end Go.Proofs.Ybulkcnom
