/-
  No cell of these rows narrows 'for every input' (looked for: loops, veiled, ifaces, maps, wideKeys, modest, calm, conditions, laid).
  DERIVED. THE GIVEN ROWS OF THIS SEAT. 2 by the template 'for every input the law returns true; each argument reads behind the call as it read before'; 0 by the template 'total and deterministic' (their statements: YbulkcnpoTotals.lean).
  GIVEN WITH THE SEED: the statements are not yours to turn. If you find one false, say at which input.
  Laid BY PROGRAM, IN A SANDBOX (cutbox-rows.mjs): the forced cells as the released guide's own fill.sh prints them over the translation 4cb10b9c7cc71c7e… (all of the seat's roots in one cut). By AI agents, Wed Nov 11 2026. No macro, syntax, notation, axiom, sorry.
-/
import Derived.Test.YbulkcnpoChecked
import GoSem.Claim
import GoSem.ClaimJoined
import GoSem.ClaimMapViews
import Derived.JoinedTies
import Derived.KernelRfl
namespace Go.Proofs.Ybulkcnpo
/- THE CELL 'sum', in the pinned program and in every row, IS THE sha256 OF THE DUMP (.gsa) THAT YbulkcnpoProg.lean LOADS. Nothing in Lean hashes anything: it is a label: what it is worth is what the hold of that sum in a sandbox is worth. -/
noncomputable def Yba.pinned : Pinned := { name := "ybulkcnpo", sum := "4cb10b9c7cc71c7e22f3f7511e13c64f8f3379be5f495a629b6638b2dc4e3f57", checked := Yba.checked }
namespace Rows
def none {H : Type} : Left H := { results := [], args := [] }

/-- 'glyphpack.LawS4473BExact': WHATEVER THE INPUT: true; the input reads as it did. -/
def lawS4473BExactSpec : ChangeSpec := { name := "lawS4473BExact", fn := fun _ => fun
  | [d] => { results := [.lit (.bool true)], args := [d] }
  | _ => none }
def lawS4473BExactRow : OpenClaim := { program := "ybulkcnpo", sum := "4cb10b9c7cc71c7e22f3f7511e13c64f8f3379be5f495a629b6638b2dc4e3f57", func := "example.com/glyphpack/glyphpack.LawS4473BExact", spec := "lawS4473BExact", inPlace := ["math/bits.Add64"], named := ["encoding/binary.LittleEndian"], apart := false }
def LawS4473BExactSaid : Prop := lawS4473BExactRow.holds Yba.pinned (OpenSpec.ofChange lawS4473BExactSpec)

/-- ITS FALSE NEIGHBOUR: 'it returns false'. Refute it at one input. -/
def lawS4473BExactWrong : ChangeSpec := { name := "lawS4473BExact", fn := fun _ => fun
  | [d] => { results := [.lit (.bool false)], args := [d] }
  | _ => none }
def LawS4473BExactWrongFalsely : Prop := lawS4473BExactRow.holds Yba.pinned (OpenSpec.ofChange lawS4473BExactWrong)

/-- 'glyphpack.LawS4473BBuilt': WHATEVER THE INPUT: true; the input reads as it did. -/
def lawS4473BBuiltSpec : ChangeSpec := { name := "lawS4473BBuilt", fn := fun _ => fun
  | [d1, d2, d3] => { results := [.lit (.bool true)], args := [d1, d2, d3] }
  | _ => none }
def lawS4473BBuiltRow : OpenClaim := { program := "ybulkcnpo", sum := "4cb10b9c7cc71c7e22f3f7511e13c64f8f3379be5f495a629b6638b2dc4e3f57", func := "example.com/glyphpack/glyphpack.LawS4473BBuilt", spec := "lawS4473BBuilt", inPlace := ["math/bits.Add64"], named := ["encoding/binary.LittleEndian"], apart := false }
def LawS4473BBuiltSaid : Prop := lawS4473BBuiltRow.holds Yba.pinned (OpenSpec.ofChange lawS4473BBuiltSpec)

/-- ITS FALSE NEIGHBOUR: 'it returns false'. Refute it at one input. -/
def lawS4473BBuiltWrong : ChangeSpec := { name := "lawS4473BBuilt", fn := fun _ => fun
  | [d1, d2, d3] => { results := [.lit (.bool false)], args := [d1, d2, d3] }
  | _ => none }
def LawS4473BBuiltWrongFalsely : Prop := lawS4473BBuiltRow.holds Yba.pinned (OpenSpec.ofChange lawS4473BBuiltWrong)

end Rows
end Go.Proofs.Ybulkcnpo
