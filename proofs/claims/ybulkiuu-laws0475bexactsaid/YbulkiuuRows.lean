/-
  No cell of these rows narrows 'for every input' (looked for: loops, veiled, ifaces, maps, wideKeys, modest, calm, conditions, laid).
  DERIVED. THE GIVEN ROWS OF THIS SEAT. 2 by the template 'for every input the law returns true; each argument reads behind the call as it read before'; 0 by the template 'total and deterministic' (their statements: YbulkiuuTotals.lean).
  GIVEN WITH THE SEED: the statements are not yours to turn. If you find one false, say at which input.
  Laid BY PROGRAM, IN A SANDBOX (cutbox-rows.mjs): the forced cells as the released guide's own fill.sh prints them over the translation 40db5b5792323b3b… (all of the seat's roots in one cut). By AI agents, Wed Nov 11 2026. No macro, syntax, notation, axiom, sorry.
-/
import Derived.Test.YbulkiuuChecked
import GoSem.Claim
import GoSem.ClaimJoined
import GoSem.ClaimMapViews
import Derived.JoinedTies
import Derived.KernelRfl
namespace Go.Proofs.Ybulkiuu
/- THE CELL 'sum', in the pinned program and in every row, IS THE sha256 OF THE DUMP (.gsa) THAT YbulkiuuProg.lean LOADS. Nothing in Lean hashes anything: it is a label: what it is worth is what the hold of that sum in a sandbox is worth. -/
noncomputable def Yba.pinned : Pinned := { name := "ybulkiuu", sum := "40db5b5792323b3b5870c4424088d75b0cc7098631534dfd026664f934c94b5a", checked := Yba.checked }
namespace Rows
def none {H : Type} : Left H := { results := [], args := [] }

/-- 'keyfile.LawS0475BExact': WHATEVER THE INPUT: true; the input reads as it did. -/
def lawS0475BExactSpec : ChangeSpec := { name := "lawS0475BExact", fn := fun _ => fun
  | [d] => { results := [.lit (.bool true)], args := [d] }
  | _ => none }
def lawS0475BExactRow : OpenClaim := { program := "ybulkiuu", sum := "40db5b5792323b3b5870c4424088d75b0cc7098631534dfd026664f934c94b5a", func := "example.com/ravelin/ravelin/keyfile.LawS0475BExact", spec := "lawS0475BExact", apart := false }
def LawS0475BExactSaid : Prop := lawS0475BExactRow.holds Yba.pinned (OpenSpec.ofChange lawS0475BExactSpec)

/-- ITS FALSE NEIGHBOUR: 'it returns false'. Refute it at one input. -/
def lawS0475BExactWrong : ChangeSpec := { name := "lawS0475BExact", fn := fun _ => fun
  | [d] => { results := [.lit (.bool false)], args := [d] }
  | _ => none }
def LawS0475BExactWrongFalsely : Prop := lawS0475BExactRow.holds Yba.pinned (OpenSpec.ofChange lawS0475BExactWrong)

/-- 'keyfile.LawS0475BEdges': WHATEVER THE INPUT: true; the input reads as it did. -/
def lawS0475BEdgesSpec : ChangeSpec := { name := "lawS0475BEdges", fn := fun _ => fun
  | [d] => { results := [.lit (.bool true)], args := [d] }
  | _ => none }
def lawS0475BEdgesRow : OpenClaim := { program := "ybulkiuu", sum := "40db5b5792323b3b5870c4424088d75b0cc7098631534dfd026664f934c94b5a", func := "example.com/ravelin/ravelin/keyfile.LawS0475BEdges", spec := "lawS0475BEdges", apart := false }
def LawS0475BEdgesSaid : Prop := lawS0475BEdgesRow.holds Yba.pinned (OpenSpec.ofChange lawS0475BEdgesSpec)

/-- ITS FALSE NEIGHBOUR: 'it returns false'. Refute it at one input. -/
def lawS0475BEdgesWrong : ChangeSpec := { name := "lawS0475BEdges", fn := fun _ => fun
  | [d] => { results := [.lit (.bool false)], args := [d] }
  | _ => none }
def LawS0475BEdgesWrongFalsely : Prop := lawS0475BEdgesRow.holds Yba.pinned (OpenSpec.ofChange lawS0475BEdgesWrong)

end Rows
end Go.Proofs.Ybulkiuu
