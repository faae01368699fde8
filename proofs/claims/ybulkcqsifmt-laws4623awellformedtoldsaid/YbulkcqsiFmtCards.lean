/-
  DERIVED. GIVEN WITH THE SEED: THE CARDS: each row of YbulkcqsiFmtRows.lean that lists a variable, with what it lists TIED to the program's text (the seventh form; the later family's looks); each row that meets fmt, with fmt's text TOLD by the authors' own Lean function (tested against real Go, not proved from fmt's source: count such statements apart). THE CARD IS WHAT COUNTS. Prove the row's statement (the work); the ties are given (YbulkcqsiFmtTie.lean); close each card by the builder's one call (the guide's Derived/Test/ToyasCard.lean, 'card_holds'). Laid BY PROGRAM, IN A SANDBOX (cutbox-door.mjs). By AI agents, Wed Nov 11 2026. No macro, syntax, notation, axiom, sorry.
-/
import Derived.Test.YbulkcqsiFmtRows
import GoSem.ClaimSeven
namespace Go.Proofs.YbulkcqsiFmt
namespace Rows

/-- THE TOLD AND TIED CARD OF 'strictjson.LawS4623AWellFormed'. -/
def lawS4623AWellFormedCard : Claim7 := { stood := { row := lawS4623AWellFormedRow, standIns := [], harness := (true, "f0d5c0de7164fe2aed598c92b30ba820cc7942c04480b862fd805f11e50f1d1c"), looks := true }, told := true, laidByText := true, laidKinds := [.data, .data, .data, .sentinel, .sentinel], laidTests := true, laidLooks := .later, goes := false }
def LawS4623AWellFormedToldSaid : Prop := Claim7.holds Ybaf.pinned (.plain (OpenSpec.ofChange lawS4623AWellFormedSpec)) lawS4623AWellFormedCard
/-- ITS FALSE NEIGHBOUR. Refute it at one input. -/
def LawS4623AWellFormedToldWrongFalsely : Prop := Claim7.holds Ybaf.pinned (.plain (OpenSpec.ofChange lawS4623AWellFormedWrong)) lawS4623AWellFormedCard

/-- THE TOLD AND TIED CARD OF 'strictjson.LawS4623AScalar'. -/
def lawS4623AScalarCard : Claim7 := { stood := { row := lawS4623AScalarRow, standIns := [], harness := (true, "f0d5c0de7164fe2aed598c92b30ba820cc7942c04480b862fd805f11e50f1d1c"), looks := true }, told := true, laidByText := true, laidKinds := [.data, .data, .data, .sentinel, .sentinel], laidTests := true, laidLooks := .later, goes := false }
def LawS4623AScalarToldSaid : Prop := Claim7.holds Ybaf.pinned (.plain (OpenSpec.ofChange lawS4623AScalarSpec)) lawS4623AScalarCard
/-- ITS FALSE NEIGHBOUR. Refute it at one input. -/
def LawS4623AScalarToldWrongFalsely : Prop := Claim7.holds Ybaf.pinned (.plain (OpenSpec.ofChange lawS4623AScalarWrong)) lawS4623AScalarCard
end Rows
end Go.Proofs.YbulkcqsiFmt
