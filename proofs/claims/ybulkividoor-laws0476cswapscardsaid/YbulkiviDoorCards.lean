/-
  DERIVED. GIVEN WITH THE SEED: THE CARDS: each row of YbulkiviDoorRows.lean that lists a variable, with what it lists TIED to the program's text (the seventh form; the later family's looks); each row that meets fmt, with fmt's text TOLD by the authors' own Lean function (tested against real Go, not proved from fmt's source: count such statements apart). THE CARD IS WHAT COUNTS. Prove the row's statement (the work); the ties are given (YbulkiviDoorTie.lean); close each card by the builder's one call (the guide's Derived/Test/ToyasCard.lean, 'card_holds'). Laid BY PROGRAM, IN A SANDBOX (cutbox-door.mjs). By AI agents, Wed Nov 11 2026. No macro, syntax, notation, axiom, sorry.
-/
import Derived.Test.YbulkiviDoorRows
import GoSem.ClaimSeven
namespace Go.Proofs.YbulkiviDoor
namespace Rows

/-- THE TIED CARD OF 'flow.LawS0476CSwaps'. -/
def lawS0476CSwapsCard : Claim7 := { stood := { row := lawS0476CSwapsRow, standIns := [], harness := (true, "5d5d1fee759150156a24f380277bc5303e858c8ba69b92175369f9f5605b7a6c"), looks := false }, kinds := [], alts := [], laidByText := true, laidKinds := [.called, .called], laidTests := true, laidLooks := .later }
def LawS0476CSwapsCardSaid : Prop := Claim7.holds Ybad.pinned (.plain (OpenSpec.ofChange lawS0476CSwapsSpec)) lawS0476CSwapsCard

/-- THE TIED CARD OF 'flow.LawS0476CInvolution'. -/
def lawS0476CInvolutionCard : Claim7 := { stood := { row := lawS0476CInvolutionRow, standIns := [], harness := (true, "5d5d1fee759150156a24f380277bc5303e858c8ba69b92175369f9f5605b7a6c"), looks := false }, kinds := [], alts := [], laidByText := true, laidKinds := [.called, .called], laidTests := true, laidLooks := .later }
def LawS0476CInvolutionCardSaid : Prop := Claim7.holds Ybad.pinned (.plain (OpenSpec.ofChange lawS0476CInvolutionSpec)) lawS0476CInvolutionCard
end Rows
end Go.Proofs.YbulkiviDoor
