/-
  NARROWER THAN 'FOR EVERY INPUT', by the rows' own cells (each row's printed sentence says how): LawS0476CSwaps: laid · LawS0476CInvolution: laid.
  DERIVED. THE GIVEN ROWS OF THIS SEAT. 2 by the template 'for every input the law returns true; each argument reads behind the call as it read before'; 0 by the template 'total and deterministic' (their statements: YbulkiviDoorTotals.lean).
  GIVEN WITH THE SEED: the statements are not yours to turn. If you find one false, say at which input.
  Laid BY PROGRAM, IN A SANDBOX (cutbox-rows.mjs): the forced cells as the released guide's own fill.sh prints them over the translation 3adc7d8a8730c769… (all of the seat's roots in one cut). By AI agents, Wed Nov 11 2026. No macro, syntax, notation, axiom, sorry.
-/
import Derived.Test.YbulkiviDoorChecked
import GoSem.Claim
import GoSem.ClaimJoined
import GoSem.ClaimMapViews
import Derived.JoinedTies
import Derived.KernelRfl
namespace Go.Proofs.YbulkiviDoor
/- THE CELL 'sum', in the pinned program and in every row, IS THE sha256 OF THE DUMP (.gsa) THAT YbulkiviDoorProg.lean LOADS. Nothing in Lean hashes anything: it is a label: what it is worth is what the hold of that sum in a sandbox is worth. -/
noncomputable def Ybad.pinned : Pinned := { name := "ybulkividoor", sum := "3adc7d8a8730c76982866825ca4c279c5106c18fdb6b04d9e39fe181e1f847a5", checked := Ybad.checked }
namespace Rows
def none {H : Type} : Left H := { results := [], args := [] }

/- WHAT THE LISTED PACKAGE-LEVEL VARIABLES READ AS WHEN THE CALL BEGINS. Each datum BY PROGRAM (the guide's laid-datum.mjs) off the statement by which the dump's own 'gosem.cut.vars' lays the variable. In a bare row this is a premise. The card (YbulkiviDoorCards.lean) ties it to the program's text. -/
def laid_net_netip_z4 {H : Type} : DataW H := .agg [.ptr (.agg [.lit (.bool false), .lit (.string [])])]
def laid_net_netip_z6noz {H : Type} : DataW H := .agg [.ptr (.agg [.lit (.bool true), .lit (.string [])])]

/-- 'flow.LawS0476CSwaps': WHATEVER THE INPUT: true; the input reads as it did. -/
def lawS0476CSwapsSpec : ChangeSpec := { name := "lawS0476CSwaps", fn := fun _ => fun
  | [d1, d2, d3, d4, d5, d6, d7, d8, d9, d10] => { results := [.lit (.bool true)], args := [d1, d2, d3, d4, d5, d6, d7, d8, d9, d10] }
  | _ => none }
def lawS0476CSwapsRow : OpenClaim := { program := "ybulkividoor", sum := "3adc7d8a8730c76982866825ca4c279c5106c18fdb6b04d9e39fe181e1f847a5", func := "example.com/throughline/throughline/flow.LawS0476CSwaps", spec := "lawS0476CSwaps", named := ["net/netip.z4", "net/netip.z6noz"], apart := false, laid := [("net/netip.z4", laid_net_netip_z4), ("net/netip.z6noz", laid_net_netip_z6noz)] }
def LawS0476CSwapsSaid : Prop := lawS0476CSwapsRow.holds Ybad.pinned (OpenSpec.ofChange lawS0476CSwapsSpec)

/-- ITS FALSE NEIGHBOUR: 'it returns false'. Refute it at one input. -/
def lawS0476CSwapsWrong : ChangeSpec := { name := "lawS0476CSwaps", fn := fun _ => fun
  | [d1, d2, d3, d4, d5, d6, d7, d8, d9, d10] => { results := [.lit (.bool false)], args := [d1, d2, d3, d4, d5, d6, d7, d8, d9, d10] }
  | _ => none }
def LawS0476CSwapsWrongFalsely : Prop := lawS0476CSwapsRow.holds Ybad.pinned (OpenSpec.ofChange lawS0476CSwapsWrong)

/-- 'flow.LawS0476CInvolution': WHATEVER THE INPUT: true; the input reads as it did. -/
def lawS0476CInvolutionSpec : ChangeSpec := { name := "lawS0476CInvolution", fn := fun _ => fun
  | [d1, d2, d3, d4, d5, d6, d7, d8, d9, d10] => { results := [.lit (.bool true)], args := [d1, d2, d3, d4, d5, d6, d7, d8, d9, d10] }
  | _ => none }
def lawS0476CInvolutionRow : OpenClaim := { program := "ybulkividoor", sum := "3adc7d8a8730c76982866825ca4c279c5106c18fdb6b04d9e39fe181e1f847a5", func := "example.com/throughline/throughline/flow.LawS0476CInvolution", spec := "lawS0476CInvolution", named := ["net/netip.z4", "net/netip.z6noz"], apart := false, laid := [("net/netip.z4", laid_net_netip_z4), ("net/netip.z6noz", laid_net_netip_z6noz)] }
def LawS0476CInvolutionSaid : Prop := lawS0476CInvolutionRow.holds Ybad.pinned (OpenSpec.ofChange lawS0476CInvolutionSpec)

/-- ITS FALSE NEIGHBOUR: 'it returns false'. Refute it at one input. -/
def lawS0476CInvolutionWrong : ChangeSpec := { name := "lawS0476CInvolution", fn := fun _ => fun
  | [d1, d2, d3, d4, d5, d6, d7, d8, d9, d10] => { results := [.lit (.bool false)], args := [d1, d2, d3, d4, d5, d6, d7, d8, d9, d10] }
  | _ => none }
def LawS0476CInvolutionWrongFalsely : Prop := lawS0476CInvolutionRow.holds Ybad.pinned (OpenSpec.ofChange lawS0476CInvolutionWrong)

end Rows
end Go.Proofs.YbulkiviDoor
