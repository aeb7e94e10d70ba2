/-
  No cell of these rows narrows 'for every input' (looked for: loops, veiled, ifaces, maps, wideKeys, modest, calm, conditions, laid).
  DERIVED. THE GIVEN ROWS OF THIS SEAT. 2 by the template 'for every input the law returns true; each argument reads behind the call as it read before'; 0 by the template 'total and deterministic' (their statements: YbulkcnnyTotals.lean).
  GIVEN WITH THE SEED: the statements are not yours to turn. If you find one false, say at which input.
  Laid BY PROGRAM, IN A SANDBOX (cutbox-rows.mjs): the forced cells as the released guide's own fill.sh prints them over the translation b9aa9318235b570d… (all of the seat's roots in one cut). By AI agents, Wed Nov 11 2026. No macro, syntax, notation, axiom, sorry.
-/
import Derived.Test.YbulkcnnyChecked
import GoSem.Claim
import GoSem.ClaimJoined
import GoSem.ClaimMapViews
import Derived.JoinedTies
import Derived.KernelRfl
namespace Go.Proofs.Ybulkcnny
/- THE CELL 'sum', in the pinned program and in every row, IS THE sha256 OF THE DUMP (.gsa) THAT YbulkcnnyProg.lean LOADS. Nothing in Lean hashes anything: it is a label: what it is worth is what the hold of that sum in a sandbox is worth. -/
noncomputable def Yba.pinned : Pinned := { name := "ybulkcnny", sum := "b9aa9318235b570d9bbb92e608cb6b6cb10d97af54c4c05d2b4ae388904db7af", checked := Yba.checked }
namespace Rows
def none {H : Type} : Left H := { results := [], args := [] }

/-- 'udp.LawS4470BPay': WHATEVER THE INPUT: true; the input reads as it did. -/
def lawS4470BPaySpec : ChangeSpec := { name := "lawS4470BPay", fn := fun _ => fun
  | [d1, d2, d3, d4, d5, d6] => { results := [.lit (.bool true)], args := [d1, d2, d3, d4, d5, d6] }
  | _ => none }
def lawS4470BPayRow : OpenClaim := { program := "ybulkcnny", sum := "b9aa9318235b570d9bbb92e608cb6b6cb10d97af54c4c05d2b4ae388904db7af", func := "example.com/orthant/orthant/udp.LawS4470BPay", spec := "lawS4470BPay", inPlace := ["(*internal/sync.Mutex).Lock", "internal/race.Disable", "sync/atomic.CompareAndSwapInt32", "internal/race.Enable", "internal/race.Acquire", "(*internal/sync.Mutex).lockSlow", "internal/sync.runtime_canSpin", "internal/sync.runtime_doSpin", "internal/sync.throw", "internal/sync.runtime_nanotime", "internal/sync.runtime_SemacquireMutex", "sync/atomic.AddInt32", "(*internal/sync.Mutex).Unlock", "internal/race.ReleaseMerge", "(*internal/sync.Mutex).unlockSlow", "internal/sync.fatal", "internal/sync.runtime_Semrelease"], plainKeys := false, apart := false }
def LawS4470BPaySaid : Prop := lawS4470BPayRow.holds Yba.pinned (OpenSpec.ofChange lawS4470BPaySpec)

/-- ITS FALSE NEIGHBOUR: 'it returns false'. Refute it at one input. -/
def lawS4470BPayWrong : ChangeSpec := { name := "lawS4470BPay", fn := fun _ => fun
  | [d1, d2, d3, d4, d5, d6] => { results := [.lit (.bool false)], args := [d1, d2, d3, d4, d5, d6] }
  | _ => none }
def LawS4470BPayWrongFalsely : Prop := lawS4470BPayRow.holds Yba.pinned (OpenSpec.ofChange lawS4470BPayWrong)

/-- 'udp.LawS4470BBudget': WHATEVER THE INPUT: true; the input reads as it did. -/
def lawS4470BBudgetSpec : ChangeSpec := { name := "lawS4470BBudget", fn := fun _ => fun
  | [d1, d2, d3] => { results := [.lit (.bool true)], args := [d1, d2, d3] }
  | _ => none }
def lawS4470BBudgetRow : OpenClaim := { program := "ybulkcnny", sum := "b9aa9318235b570d9bbb92e608cb6b6cb10d97af54c4c05d2b4ae388904db7af", func := "example.com/orthant/orthant/udp.LawS4470BBudget", spec := "lawS4470BBudget", inPlace := ["(*internal/sync.Mutex).Lock", "internal/race.Disable", "sync/atomic.CompareAndSwapInt32", "internal/race.Enable", "internal/race.Acquire", "(*internal/sync.Mutex).lockSlow", "internal/sync.runtime_canSpin", "internal/sync.runtime_doSpin", "internal/sync.throw", "internal/sync.runtime_nanotime", "internal/sync.runtime_SemacquireMutex", "sync/atomic.AddInt32", "(*internal/sync.Mutex).Unlock", "internal/race.ReleaseMerge", "(*internal/sync.Mutex).unlockSlow", "internal/sync.fatal", "internal/sync.runtime_Semrelease"], plainKeys := false, apart := false }
def LawS4470BBudgetSaid : Prop := lawS4470BBudgetRow.holds Yba.pinned (OpenSpec.ofChange lawS4470BBudgetSpec)

/-- ITS FALSE NEIGHBOUR: 'it returns false'. Refute it at one input. -/
def lawS4470BBudgetWrong : ChangeSpec := { name := "lawS4470BBudget", fn := fun _ => fun
  | [d1, d2, d3] => { results := [.lit (.bool false)], args := [d1, d2, d3] }
  | _ => none }
def LawS4470BBudgetWrongFalsely : Prop := lawS4470BBudgetRow.holds Yba.pinned (OpenSpec.ofChange lawS4470BBudgetWrong)

end Rows
end Go.Proofs.Ybulkcnny
