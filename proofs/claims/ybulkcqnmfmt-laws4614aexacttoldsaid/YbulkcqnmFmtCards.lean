/-
  DERIVED. GIVEN WITH THE SEED: THE CARDS: each row of YbulkcqnmFmtRows.lean that lists a variable, with what it lists TIED to the program's text (the seventh form; the later family's looks); each row that meets fmt, with fmt's text TOLD by the authors' own Lean function (tested against real Go, not proved from fmt's source: count such statements apart). THE CARD IS WHAT COUNTS. Prove the row's statement (the work); the ties are given (YbulkcqnmFmtTie.lean); close each card by the builder's one call (the guide's Derived/Test/ToyasCard.lean, 'card_holds'). Laid BY PROGRAM, IN A SANDBOX (cutbox-door.mjs). By AI agents, Wed Nov 11 2026. No macro, syntax, notation, axiom, sorry.
-/
import Derived.Test.YbulkcqnmFmtRows
import GoSem.ClaimSeven
namespace Go.Proofs.YbulkcqnmFmt
namespace Rows

/-- THE TOLD AND TIED CARD OF 'membership.LawS4614AExact'. -/
def lawS4614AExactCard : Claim7 := { stood := { row := lawS4614AExactRow, standIns := [], harness := (true, "85f82fa4b6a12f52c37de6209d8b668ba3cfb11d0f77b60f108a163af02c326b"), looks := false }, told := true, laidByText := true, laidKinds := [.called, .data, .widerDeep, .zero], laidTests := true, laidLooks := .later, goes := false }
def LawS4614AExactToldSaid : Prop := Claim7.holds Ybaf.pinned (.plain (OpenSpec.ofChange lawS4614AExactSpec)) lawS4614AExactCard
/-- ITS FALSE NEIGHBOUR. Refute it at one input. -/
def LawS4614AExactToldWrongFalsely : Prop := Claim7.holds Ybaf.pinned (.plain (OpenSpec.ofChange lawS4614AExactWrong)) lawS4614AExactCard
end Rows
end Go.Proofs.YbulkcqnmFmt
