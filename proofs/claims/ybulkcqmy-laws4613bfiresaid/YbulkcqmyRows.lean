/-
  No cell of these rows narrows 'for every input' (looked for: loops, veiled, ifaces, maps, wideKeys, modest, calm, conditions, laid).
  DERIVED. THE GIVEN ROWS OF THIS SEAT. 1 by the template 'for every input the law returns true; each argument reads behind the call as it read before'; 0 by the template 'total and deterministic' (their statements: YbulkcqmyTotals.lean).
  GIVEN WITH THE SEED: the statements are not yours to turn. If you find one false, say at which input.
  Laid BY PROGRAM, IN A SANDBOX (cutbox-rows.mjs): the forced cells as the released guide's own fill.sh prints them over the translation c7e79c108b38de3e… (all of the seat's roots in one cut). By AI agents, Wed Nov 11 2026. No macro, syntax, notation, axiom, sorry.
-/
import Derived.Test.YbulkcqmyChecked
import GoSem.Claim
import GoSem.ClaimJoined
import GoSem.ClaimMapViews
import Derived.JoinedTies
import Derived.KernelRfl
namespace Go.Proofs.Ybulkcqmy
/- THE CELL 'sum', in the pinned program and in every row, IS THE sha256 OF THE DUMP (.gsa) THAT YbulkcqmyProg.lean LOADS. Nothing in Lean hashes anything: it is a label: what it is worth is what the hold of that sum in a sandbox is worth. -/
noncomputable def Yba.pinned : Pinned := { name := "ybulkcqmy", sum := "c7e79c108b38de3edab2c44879807cf49f3225d3a020cbd74fd3f0d96c3e526c", checked := Yba.checked }
namespace Rows
def none {H : Type} : Left H := { results := [], args := [] }

/-- 'replica.LawS4613BFire': WHATEVER THE INPUT: true; the input reads as it did. -/
def lawS4613BFireSpec : ChangeSpec := { name := "lawS4613BFire", fn := fun _ => fun
  | [d1, d2, d3, d4] => { results := [.lit (.bool true)], args := [d1, d2, d3, d4] }
  | _ => none }
def lawS4613BFireRow : OpenClaim := { program := "ybulkcqmy", sum := "c7e79c108b38de3edab2c44879807cf49f3225d3a020cbd74fd3f0d96c3e526c", func := "example.com/quorumbook/quorumbook/internal/replica.LawS4613BFire", spec := "lawS4613BFire", unfollowed := true, recurses := true, apart := false }
def LawS4613BFireSaid : Prop := lawS4613BFireRow.holds Yba.pinned (OpenSpec.ofChange lawS4613BFireSpec)

/-- ITS FALSE NEIGHBOUR: 'it returns false'. Refute it at one input. -/
def lawS4613BFireWrong : ChangeSpec := { name := "lawS4613BFire", fn := fun _ => fun
  | [d1, d2, d3, d4] => { results := [.lit (.bool false)], args := [d1, d2, d3, d4] }
  | _ => none }
def LawS4613BFireWrongFalsely : Prop := lawS4613BFireRow.holds Yba.pinned (OpenSpec.ofChange lawS4613BFireWrong)

end Rows
end Go.Proofs.Ybulkcqmy
