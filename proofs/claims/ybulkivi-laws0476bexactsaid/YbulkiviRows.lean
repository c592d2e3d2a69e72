/-
  No cell of these rows narrows 'for every input' (looked for: loops, veiled, ifaces, maps, wideKeys, modest, calm, conditions, laid).
  DERIVED. THE GIVEN ROWS OF THIS SEAT. 3 by the template 'for every input the law returns true; each argument reads behind the call as it read before'; 0 by the template 'total and deterministic' (their statements: YbulkiviTotals.lean).
  GIVEN WITH THE SEED: the statements are not yours to turn. If you find one false, say at which input.
  Laid BY PROGRAM, IN A SANDBOX (cutbox-rows.mjs): the forced cells as the released guide's own fill.sh prints them over the translation 96ce2d06acf30363… (all of the seat's roots in one cut). By AI agents, Wed Nov 11 2026. No macro, syntax, notation, axiom, sorry.
-/
import Derived.Test.YbulkiviChecked
import GoSem.Claim
import GoSem.ClaimJoined
import GoSem.ClaimMapViews
import Derived.JoinedTies
import Derived.KernelRfl
namespace Go.Proofs.Ybulkivi
/- THE CELL 'sum', in the pinned program and in every row, IS THE sha256 OF THE DUMP (.gsa) THAT YbulkiviProg.lean LOADS. Nothing in Lean hashes anything: it is a label: what it is worth is what the hold of that sum in a sandbox is worth. -/
noncomputable def Yba.pinned : Pinned := { name := "ybulkivi", sum := "96ce2d06acf303635107c8f8062459ecc7a250a958623f95253377a00f9d9b6e", checked := Yba.checked }
namespace Rows
def none {H : Type} : Left H := { results := [], args := [] }

/-- 'tiu.LawS0476BExact': WHATEVER THE INPUT: true; the input reads as it did. -/
def lawS0476BExactSpec : ChangeSpec := { name := "lawS0476BExact", fn := fun _ => fun
  | [d1, d2] => { results := [.lit (.bool true)], args := [d1, d2] }
  | _ => none }
def lawS0476BExactRow : OpenClaim := { program := "ybulkivi", sum := "96ce2d06acf303635107c8f8062459ecc7a250a958623f95253377a00f9d9b6e", func := "example.com/throughline/throughline/tiu.LawS0476BExact", spec := "lawS0476BExact", apart := false }
def LawS0476BExactSaid : Prop := lawS0476BExactRow.holds Yba.pinned (OpenSpec.ofChange lawS0476BExactSpec)

/-- ITS FALSE NEIGHBOUR: 'it returns false'. Refute it at one input. -/
def lawS0476BExactWrong : ChangeSpec := { name := "lawS0476BExact", fn := fun _ => fun
  | [d1, d2] => { results := [.lit (.bool false)], args := [d1, d2] }
  | _ => none }
def LawS0476BExactWrongFalsely : Prop := lawS0476BExactRow.holds Yba.pinned (OpenSpec.ofChange lawS0476BExactWrong)

/-- 'tiu.LawS0476BSynAdds': WHATEVER THE INPUT: true; the input reads as it did. -/
def lawS0476BSynAddsSpec : ChangeSpec := { name := "lawS0476BSynAdds", fn := fun _ => fun
  | [d] => { results := [.lit (.bool true)], args := [d] }
  | _ => none }
def lawS0476BSynAddsRow : OpenClaim := { program := "ybulkivi", sum := "96ce2d06acf303635107c8f8062459ecc7a250a958623f95253377a00f9d9b6e", func := "example.com/throughline/throughline/tiu.LawS0476BSynAdds", spec := "lawS0476BSynAdds", apart := false }
def LawS0476BSynAddsSaid : Prop := lawS0476BSynAddsRow.holds Yba.pinned (OpenSpec.ofChange lawS0476BSynAddsSpec)

/-- ITS FALSE NEIGHBOUR: 'it returns false'. Refute it at one input. -/
def lawS0476BSynAddsWrong : ChangeSpec := { name := "lawS0476BSynAdds", fn := fun _ => fun
  | [d] => { results := [.lit (.bool false)], args := [d] }
  | _ => none }
def LawS0476BSynAddsWrongFalsely : Prop := lawS0476BSynAddsRow.holds Yba.pinned (OpenSpec.ofChange lawS0476BSynAddsWrong)

/-- 'tiu.LawS0476BStep': WHATEVER THE INPUT: true; the input reads as it did. -/
def lawS0476BStepSpec : ChangeSpec := { name := "lawS0476BStep", fn := fun _ => fun
  | [d1, d2] => { results := [.lit (.bool true)], args := [d1, d2] }
  | _ => none }
def lawS0476BStepRow : OpenClaim := { program := "ybulkivi", sum := "96ce2d06acf303635107c8f8062459ecc7a250a958623f95253377a00f9d9b6e", func := "example.com/throughline/throughline/tiu.LawS0476BStep", spec := "lawS0476BStep", apart := false }
def LawS0476BStepSaid : Prop := lawS0476BStepRow.holds Yba.pinned (OpenSpec.ofChange lawS0476BStepSpec)

/-- ITS FALSE NEIGHBOUR: 'it returns false'. Refute it at one input. -/
def lawS0476BStepWrong : ChangeSpec := { name := "lawS0476BStep", fn := fun _ => fun
  | [d1, d2] => { results := [.lit (.bool false)], args := [d1, d2] }
  | _ => none }
def LawS0476BStepWrongFalsely : Prop := lawS0476BStepRow.holds Yba.pinned (OpenSpec.ofChange lawS0476BStepWrong)

end Rows
end Go.Proofs.Ybulkivi
