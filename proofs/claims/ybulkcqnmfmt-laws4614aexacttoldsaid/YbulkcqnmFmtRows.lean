/-
  NARROWER THAN 'FOR EVERY INPUT', by the rows' own cells (each row's printed sentence says how): LawS4614AExact: laid.
  DERIVED. THE GIVEN ROWS OF THIS SEAT. 1 by the template 'for every input the law returns true; each argument reads behind the call as it read before'; 0 by the template 'total and deterministic' (their statements: YbulkcqnmFmtTotals.lean).
  GIVEN WITH THE SEED: the statements are not yours to turn. If you find one false, say at which input.
  Laid BY PROGRAM, IN A SANDBOX (cutbox-rows.mjs): the forced cells as the released guide's own fill.sh prints them over the translation 3e3ae05bfdc2ead3… (all of the seat's roots in one cut). By AI agents, Wed Nov 11 2026. No macro, syntax, notation, axiom, sorry.
-/
import Derived.Test.YbulkcqnmFmtChecked
import GoSem.Claim
import GoSem.ClaimJoined
import GoSem.ClaimMapViews
import Derived.JoinedTies
import Derived.KernelRfl
namespace Go.Proofs.YbulkcqnmFmt
/- THE CELL 'sum', in the pinned program and in every row, IS THE sha256 OF THE DUMP (.gsa) THAT YbulkcqnmFmtProg.lean LOADS. Nothing in Lean hashes anything: it is a label: what it is worth is what the hold of that sum in a sandbox is worth. -/
noncomputable def Ybaf.pinned : Pinned := { name := "ybulkcqnmfmt", sum := "3e3ae05bfdc2ead35acbb91c3b3a91d6b807e5ce091e09818d4a318484e73313", checked := Ybaf.checked }
namespace Rows
def none {H : Type} : Left H := { results := [], args := [] }

/- WHAT THE LISTED PACKAGE-LEVEL VARIABLES READ AS WHEN THE CALL BEGINS. Each datum BY PROGRAM (the guide's laid-datum.mjs) off the statement by which the dump's own 'gosem.cut.vars' lays the variable. In a bare row this is a premise. The card (YbulkcqnmFmtCards.lean) ties it to the program's text. -/
def laid_net_netip_z4 {H : Type} : DataW H := .agg [.ptr (.agg [.lit (.bool false), .lit (.string [])])]
def laid_example_com_muster_muster_membership_states {H : Type} : DataW H := .slice [.lit (.string [97, 108, 105, 118, 101]), .lit (.string [115, 117, 115, 112, 101, 99, 116]), .lit (.string [100, 101, 97, 100]), .lit (.string [108, 101, 102, 116])] []
def laid_example_com_muster_muster_membership_magic {H : Type} : DataW H := .agg [.lit (.int .u8 77), .lit (.int .u8 115), .lit (.int .u8 1)]
def laid_net_netip_z0 {H : Type} : DataW H := .agg [.nil]

/-- 'membership.LawS4614AExact': WHATEVER THE INPUT: true; the input reads as it did. -/
def lawS4614AExactSpec : ChangeSpec := { name := "lawS4614AExact", vars := ["example.com/muster/muster/membership.states", "example.com/muster/muster/membership.magic"], fn := fun _ => fun
  | [d1, d2, d3, d4, d5, d6, g1, g2] => { results := [.lit (.bool true)], args := [d1, d2, d3, d4, d5, d6], vars := [g1, g2] }
  | _ => none }
def lawS4614AExactRow : OpenClaim := { program := "ybulkcqnmfmt", sum := "3e3ae05bfdc2ead35acbb91c3b3a91d6b807e5ce091e09818d4a318484e73313", func := "example.com/muster/muster/membership.LawS4614AExact", spec := "lawS4614AExact", stops := ["fmt.Sprintf"], inPlace := ["fmt.Sprintf"], named := ["example.com/muster/muster/membership.states", "net/netip.z4", "example.com/muster/muster/membership.magic", "encoding/binary.BigEndian", "net/netip.z0"], apart := false, laid := [("net/netip.z4", laid_net_netip_z4), ("example.com/muster/muster/membership.states", laid_example_com_muster_muster_membership_states), ("example.com/muster/muster/membership.magic", laid_example_com_muster_muster_membership_magic), ("net/netip.z0", laid_net_netip_z0)] }
/-- NO THEOREM (fmt's text is open here; it may be false): for the released tool's asking of the row's closed facts alone. THE STATEMENT IS 'LawS4614AExactToldSaid' (YbulkcqnmFmtCards.lean). -/
def LawS4614AExactFormAsk : Prop := lawS4614AExactRow.holds Ybaf.pinned (OpenSpec.ofChange lawS4614AExactSpec)

/-- ITS FALSE NEIGHBOUR: 'it returns false'. Refute it at one input. -/
def lawS4614AExactWrong : ChangeSpec := { name := "lawS4614AExact", vars := ["example.com/muster/muster/membership.states", "example.com/muster/muster/membership.magic"], fn := fun _ => fun
  | [d1, d2, d3, d4, d5, d6, g1, g2] => { results := [.lit (.bool false)], args := [d1, d2, d3, d4, d5, d6], vars := [g1, g2] }
  | _ => none }
def LawS4614AExactWrongFormAsk : Prop := lawS4614AExactRow.holds Ybaf.pinned (OpenSpec.ofChange lawS4614AExactWrong)

end Rows
end Go.Proofs.YbulkcqnmFmt
