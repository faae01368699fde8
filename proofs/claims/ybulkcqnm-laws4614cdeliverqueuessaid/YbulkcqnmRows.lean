/-
  No cell of these rows narrows 'for every input' (looked for: loops, veiled, ifaces, maps, wideKeys, modest, calm, conditions, laid).
  DERIVED. THE GIVEN ROWS OF THIS SEAT. 2 by the template 'for every input the law returns true; each argument reads behind the call as it read before'; 0 by the template 'total and deterministic' (their statements: YbulkcqnmTotals.lean).
  GIVEN WITH THE SEED: the statements are not yours to turn. If you find one false, say at which input.
  Laid BY PROGRAM, IN A SANDBOX (cutbox-rows.mjs): the forced cells as the released guide's own fill.sh prints them over the translation 4b8f8ff36a44f391… (all of the seat's roots in one cut). By AI agents, Wed Nov 11 2026. No macro, syntax, notation, axiom, sorry.
-/
import Derived.Test.YbulkcqnmChecked
import GoSem.Claim
import GoSem.ClaimJoined
import GoSem.ClaimMapViews
import Derived.JoinedTies
import Derived.KernelRfl
namespace Go.Proofs.Ybulkcqnm
/- THE CELL 'sum', in the pinned program and in every row, IS THE sha256 OF THE DUMP (.gsa) THAT YbulkcqnmProg.lean LOADS. Nothing in Lean hashes anything: it is a label: what it is worth is what the hold of that sum in a sandbox is worth. -/
noncomputable def Yba.pinned : Pinned := { name := "ybulkcqnm", sum := "4b8f8ff36a44f3913807c66c8bf284ab939d1f289ccf53bdfdec54d60b1a3abb", checked := Yba.checked }
namespace Rows
def none {H : Type} : Left H := { results := [], args := [] }

/-- 'pubsub.LawS4614CDeliverQueues': WHATEVER THE INPUT: true; the input reads as it did. -/
def lawS4614CDeliverQueuesSpec : ChangeSpec := { name := "lawS4614CDeliverQueues", fn := fun _ => fun
  | [d1, d2, d3, d4, d5, d6] => { results := [.lit (.bool true)], args := [d1, d2, d3, d4, d5, d6] }
  | _ => none }
def lawS4614CDeliverQueuesRow : OpenClaim := { program := "ybulkcqnm", sum := "4b8f8ff36a44f3913807c66c8bf284ab939d1f289ccf53bdfdec54d60b1a3abb", func := "example.com/muster/muster/pubsub.LawS4614CDeliverQueues", spec := "lawS4614CDeliverQueues", inPlace := ["(*internal/sync.Mutex).Lock", "internal/race.Disable", "sync/atomic.CompareAndSwapInt32", "internal/race.Enable", "internal/race.Acquire", "(*internal/sync.Mutex).lockSlow", "internal/sync.runtime_canSpin", "internal/sync.runtime_doSpin", "internal/sync.throw", "internal/sync.runtime_nanotime", "internal/sync.runtime_SemacquireMutex", "sync/atomic.AddInt32", "(*internal/sync.Mutex).Unlock", "internal/race.ReleaseMerge", "(*internal/sync.Mutex).unlockSlow", "internal/sync.fatal", "internal/sync.runtime_Semrelease"], apart := false }
def LawS4614CDeliverQueuesSaid : Prop := lawS4614CDeliverQueuesRow.holds Yba.pinned (OpenSpec.ofChange lawS4614CDeliverQueuesSpec)

/-- ITS FALSE NEIGHBOUR: 'it returns false'. Refute it at one input. -/
def lawS4614CDeliverQueuesWrong : ChangeSpec := { name := "lawS4614CDeliverQueues", fn := fun _ => fun
  | [d1, d2, d3, d4, d5, d6] => { results := [.lit (.bool false)], args := [d1, d2, d3, d4, d5, d6] }
  | _ => none }
def LawS4614CDeliverQueuesWrongFalsely : Prop := lawS4614CDeliverQueuesRow.holds Yba.pinned (OpenSpec.ofChange lawS4614CDeliverQueuesWrong)

/-- 'pubsub.LawS4614CDeliverRefused': WHATEVER THE INPUT: true; the input reads as it did. -/
def lawS4614CDeliverRefusedSpec : ChangeSpec := { name := "lawS4614CDeliverRefused", fn := fun _ => fun
  | [d1, d2, d3, d4] => { results := [.lit (.bool true)], args := [d1, d2, d3, d4] }
  | _ => none }
def lawS4614CDeliverRefusedRow : OpenClaim := { program := "ybulkcqnm", sum := "4b8f8ff36a44f3913807c66c8bf284ab939d1f289ccf53bdfdec54d60b1a3abb", func := "example.com/muster/muster/pubsub.LawS4614CDeliverRefused", spec := "lawS4614CDeliverRefused", inPlace := ["(*internal/sync.Mutex).Lock", "internal/race.Disable", "sync/atomic.CompareAndSwapInt32", "internal/race.Enable", "internal/race.Acquire", "(*internal/sync.Mutex).lockSlow", "internal/sync.runtime_canSpin", "internal/sync.runtime_doSpin", "internal/sync.throw", "internal/sync.runtime_nanotime", "internal/sync.runtime_SemacquireMutex", "sync/atomic.AddInt32", "(*internal/sync.Mutex).Unlock", "internal/race.ReleaseMerge", "(*internal/sync.Mutex).unlockSlow", "internal/sync.fatal", "internal/sync.runtime_Semrelease"], apart := false }
def LawS4614CDeliverRefusedSaid : Prop := lawS4614CDeliverRefusedRow.holds Yba.pinned (OpenSpec.ofChange lawS4614CDeliverRefusedSpec)

/-- ITS FALSE NEIGHBOUR: 'it returns false'. Refute it at one input. -/
def lawS4614CDeliverRefusedWrong : ChangeSpec := { name := "lawS4614CDeliverRefused", fn := fun _ => fun
  | [d1, d2, d3, d4] => { results := [.lit (.bool false)], args := [d1, d2, d3, d4] }
  | _ => none }
def LawS4614CDeliverRefusedWrongFalsely : Prop := lawS4614CDeliverRefusedRow.holds Yba.pinned (OpenSpec.ofChange lawS4614CDeliverRefusedWrong)

end Rows
end Go.Proofs.Ybulkcqnm
