/-
  No cell of these rows narrows 'for every input' (looked for: loops, veiled, ifaces, maps, wideKeys, modest, calm, conditions, laid).
  DERIVED. THE GIVEN ROWS OF THIS SEAT. 1 by the template 'for every input the law returns true; each argument reads behind the call as it read before'; 0 by the template 'total and deterministic' (their statements: YbulkcqoaTotals.lean).
  GIVEN WITH THE SEED: the statements are not yours to turn. If you find one false, say at which input.
  Laid BY PROGRAM, IN A SANDBOX (cutbox-rows.mjs): the forced cells as the released guide's own fill.sh prints them over the translation 9ffb27a77bb94ee1… (all of the seat's roots in one cut). By AI agents, Wed Nov 11 2026. No macro, syntax, notation, axiom, sorry.
-/
import Derived.Test.YbulkcqoaChecked
import GoSem.Claim
import GoSem.ClaimJoined
import GoSem.ClaimMapViews
import Derived.JoinedTies
import Derived.KernelRfl
namespace Go.Proofs.Ybulkcqoa
/- THE CELL 'sum', in the pinned program and in every row, IS THE sha256 OF THE DUMP (.gsa) THAT YbulkcqoaProg.lean LOADS. Nothing in Lean hashes anything: it is a label: what it is worth is what the hold of that sum in a sandbox is worth. -/
noncomputable def Yba.pinned : Pinned := { name := "ybulkcqoa", sum := "9ffb27a77bb94ee15731c774add6fbe1ecb3b3265372f80188bac08967aba3e2", checked := Yba.checked }
namespace Rows
def none {H : Type} : Left H := { results := [], args := [] }

/-- 'toml.LawS4615AChild': WHATEVER THE INPUT: true; the input reads as it did. -/
def lawS4615AChildSpec : ChangeSpec := { name := "lawS4615AChild", fn := fun _ => fun
  | [d1, d2, d3, d4, d5] => { results := [.lit (.bool true)], args := [d1, d2, d3, d4, d5] }
  | _ => none }
def lawS4615AChildRow : OpenClaim := { program := "ybulkcqoa", sum := "9ffb27a77bb94ee15731c774add6fbe1ecb3b3265372f80188bac08967aba3e2", func := "example.com/vestwright/vestwright/toml.LawS4615AChild", spec := "lawS4615AChild", apart := false }
def LawS4615AChildSaid : Prop := lawS4615AChildRow.holds Yba.pinned (OpenSpec.ofChange lawS4615AChildSpec)

/-- ITS FALSE NEIGHBOUR: 'it returns false'. Refute it at one input. -/
def lawS4615AChildWrong : ChangeSpec := { name := "lawS4615AChild", fn := fun _ => fun
  | [d1, d2, d3, d4, d5] => { results := [.lit (.bool false)], args := [d1, d2, d3, d4, d5] }
  | _ => none }
def LawS4615AChildWrongFalsely : Prop := lawS4615AChildRow.holds Yba.pinned (OpenSpec.ofChange lawS4615AChildWrong)

end Rows
end Go.Proofs.Ybulkcqoa
