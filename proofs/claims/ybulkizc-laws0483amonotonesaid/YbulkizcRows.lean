/-
  No cell of these rows narrows 'for every input' (looked for: loops, veiled, ifaces, maps, wideKeys, modest, calm, conditions, laid).
  DERIVED. THE GIVEN ROWS OF THIS SEAT. 4 by the template 'for every input the law returns true; each argument reads behind the call as it read before'; 0 by the template 'total and deterministic' (their statements: YbulkizcTotals.lean).
  GIVEN WITH THE SEED: the statements are not yours to turn. If you find one false, say at which input.
  Laid BY PROGRAM, IN A SANDBOX (cutbox-rows.mjs): the forced cells as the released guide's own fill.sh prints them over the translation b2d018f0eb5fa9ac… (all of the seat's roots in one cut). By AI agents, Wed Nov 11 2026. No macro, syntax, notation, axiom, sorry.
-/
import Derived.Test.YbulkizcChecked
import GoSem.Claim
import GoSem.ClaimJoined
import GoSem.ClaimMapViews
import Derived.JoinedTies
import Derived.KernelRfl
namespace Go.Proofs.Ybulkizc
/- THE CELL 'sum', in the pinned program and in every row, IS THE sha256 OF THE DUMP (.gsa) THAT YbulkizcProg.lean LOADS. Nothing in Lean hashes anything: it is a label: what it is worth is what the hold of that sum in a sandbox is worth. -/
noncomputable def Yba.pinned : Pinned := { name := "ybulkizc", sum := "b2d018f0eb5fa9acba13650786c3d460efcf483a768d8a9d6d862733832a368a", checked := Yba.checked }
namespace Rows
def none {H : Type} : Left H := { results := [], args := [] }

/-- 'chime.LawS0483AExact': WHATEVER THE INPUT: true; the input reads as it did. -/
def lawS0483AExactSpec : ChangeSpec := { name := "lawS0483AExact", fn := fun _ => fun
  | [d1, d2] => { results := [.lit (.bool true)], args := [d1, d2] }
  | _ => none }
def lawS0483AExactRow : OpenClaim := { program := "ybulkizc", sum := "b2d018f0eb5fa9acba13650786c3d460efcf483a768d8a9d6d862733832a368a", func := "example.com/chime/chime.LawS0483AExact", spec := "lawS0483AExact", apart := false }
def LawS0483AExactSaid : Prop := lawS0483AExactRow.holds Yba.pinned (OpenSpec.ofChange lawS0483AExactSpec)

/-- ITS FALSE NEIGHBOUR: 'it returns false'. Refute it at one input. -/
def lawS0483AExactWrong : ChangeSpec := { name := "lawS0483AExact", fn := fun _ => fun
  | [d1, d2] => { results := [.lit (.bool false)], args := [d1, d2] }
  | _ => none }
def LawS0483AExactWrongFalsely : Prop := lawS0483AExactRow.holds Yba.pinned (OpenSpec.ofChange lawS0483AExactWrong)

/-- 'chime.LawS0483AMonotone': WHATEVER THE INPUT: true; the input reads as it did. -/
def lawS0483AMonotoneSpec : ChangeSpec := { name := "lawS0483AMonotone", fn := fun _ => fun
  | [d1, d2, d3, d4] => { results := [.lit (.bool true)], args := [d1, d2, d3, d4] }
  | _ => none }
def lawS0483AMonotoneRow : OpenClaim := { program := "ybulkizc", sum := "b2d018f0eb5fa9acba13650786c3d460efcf483a768d8a9d6d862733832a368a", func := "example.com/chime/chime.LawS0483AMonotone", spec := "lawS0483AMonotone", apart := false }
def LawS0483AMonotoneSaid : Prop := lawS0483AMonotoneRow.holds Yba.pinned (OpenSpec.ofChange lawS0483AMonotoneSpec)

/-- ITS FALSE NEIGHBOUR: 'it returns false'. Refute it at one input. -/
def lawS0483AMonotoneWrong : ChangeSpec := { name := "lawS0483AMonotone", fn := fun _ => fun
  | [d1, d2, d3, d4] => { results := [.lit (.bool false)], args := [d1, d2, d3, d4] }
  | _ => none }
def LawS0483AMonotoneWrongFalsely : Prop := lawS0483AMonotoneRow.holds Yba.pinned (OpenSpec.ofChange lawS0483AMonotoneWrong)

/-- 'chime.LawS0483CLex': WHATEVER THE INPUT: true; the input reads as it did. -/
def lawS0483CLexSpec : ChangeSpec := { name := "lawS0483CLex", fn := fun _ => fun
  | [d1, d2, d3, d4, d5, d6] => { results := [.lit (.bool true)], args := [d1, d2, d3, d4, d5, d6] }
  | _ => none }
def lawS0483CLexRow : OpenClaim := { program := "ybulkizc", sum := "b2d018f0eb5fa9acba13650786c3d460efcf483a768d8a9d6d862733832a368a", func := "example.com/chime/chime.LawS0483CLex", spec := "lawS0483CLex", apart := false }
def LawS0483CLexSaid : Prop := lawS0483CLexRow.holds Yba.pinned (OpenSpec.ofChange lawS0483CLexSpec)

/-- ITS FALSE NEIGHBOUR: 'it returns false'. Refute it at one input. -/
def lawS0483CLexWrong : ChangeSpec := { name := "lawS0483CLex", fn := fun _ => fun
  | [d1, d2, d3, d4, d5, d6] => { results := [.lit (.bool false)], args := [d1, d2, d3, d4, d5, d6] }
  | _ => none }
def LawS0483CLexWrongFalsely : Prop := lawS0483CLexRow.holds Yba.pinned (OpenSpec.ofChange lawS0483CLexWrong)

/-- 'chime.LawS0483CAntisym': WHATEVER THE INPUT: true; the input reads as it did. -/
def lawS0483CAntisymSpec : ChangeSpec := { name := "lawS0483CAntisym", fn := fun _ => fun
  | [d1, d2, d3, d4, d5, d6] => { results := [.lit (.bool true)], args := [d1, d2, d3, d4, d5, d6] }
  | _ => none }
def lawS0483CAntisymRow : OpenClaim := { program := "ybulkizc", sum := "b2d018f0eb5fa9acba13650786c3d460efcf483a768d8a9d6d862733832a368a", func := "example.com/chime/chime.LawS0483CAntisym", spec := "lawS0483CAntisym", apart := false }
def LawS0483CAntisymSaid : Prop := lawS0483CAntisymRow.holds Yba.pinned (OpenSpec.ofChange lawS0483CAntisymSpec)

/-- ITS FALSE NEIGHBOUR: 'it returns false'. Refute it at one input. -/
def lawS0483CAntisymWrong : ChangeSpec := { name := "lawS0483CAntisym", fn := fun _ => fun
  | [d1, d2, d3, d4, d5, d6] => { results := [.lit (.bool false)], args := [d1, d2, d3, d4, d5, d6] }
  | _ => none }
def LawS0483CAntisymWrongFalsely : Prop := lawS0483CAntisymRow.holds Yba.pinned (OpenSpec.ofChange lawS0483CAntisymWrong)

end Rows
end Go.Proofs.Ybulkizc
