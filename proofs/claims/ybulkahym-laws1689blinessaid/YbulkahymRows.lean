/-
  No cell of these rows narrows 'for every input' (looked for: loops, veiled, ifaces, maps, wideKeys, modest, calm, conditions, laid).
  DERIVED. THE GIVEN ROWS OF THIS SEAT. 3 by the template 'for every input the law returns true; each argument reads behind the call as it read before'; 0 by the template 'total and deterministic' (their statements: YbulkahymTotals.lean).
  GIVEN WITH THE SEED: the statements are not yours to turn. If you find one false, say at which input.
  Laid BY PROGRAM, IN A SANDBOX (cutbox-rows.mjs): the forced cells as the released guide's own fill.sh prints them over the translation c091dfcac9a488c2… (all of the seat's roots in one cut). By AI agents, Wed Nov 11 2026. No macro, syntax, notation, axiom, sorry.
-/
import Derived.Test.YbulkahymChecked
import GoSem.Claim
import GoSem.ClaimJoined
import GoSem.ClaimMapViews
import Derived.JoinedTies
import Derived.KernelRfl
namespace Go.Proofs.Ybulkahym
/- THE CELL 'sum', in the pinned program and in every row, IS THE sha256 OF THE DUMP (.gsa) THAT YbulkahymProg.lean LOADS. Nothing in Lean hashes anything: it is a label: what it is worth is what the hold of that sum in a sandbox is worth. -/
noncomputable def Yba.pinned : Pinned := { name := "ybulkahym", sum := "c091dfcac9a488c293b91122b1cd8bde33465cf9e268cc20bd4bbececae19de3", checked := Yba.checked }
namespace Rows
def none {H : Type} : Left H := { results := [], args := [] }

/-- 'gen.LawS1689BLines': WHATEVER THE INPUT: true; the input reads as it did. -/
def lawS1689BLinesSpec : ChangeSpec := { name := "lawS1689BLines", fn := fun _ => fun
  | [d1, d2, d3] => { results := [.lit (.bool true)], args := [d1, d2, d3] }
  | _ => none }
def lawS1689BLinesRow : OpenClaim := { program := "ybulkahym", sum := "c091dfcac9a488c293b91122b1cd8bde33465cf9e268cc20bd4bbececae19de3", func := "example.com/optkeel/optkeel/internal/gen.LawS1689BLines", spec := "lawS1689BLines", apart := false }
def LawS1689BLinesSaid : Prop := lawS1689BLinesRow.holds Yba.pinned (OpenSpec.ofChange lawS1689BLinesSpec)

/-- ITS FALSE NEIGHBOUR: 'it returns false'. Refute it at one input. -/
def lawS1689BLinesWrong : ChangeSpec := { name := "lawS1689BLines", fn := fun _ => fun
  | [d1, d2, d3] => { results := [.lit (.bool false)], args := [d1, d2, d3] }
  | _ => none }
def LawS1689BLinesWrongFalsely : Prop := lawS1689BLinesRow.holds Yba.pinned (OpenSpec.ofChange lawS1689BLinesWrong)

/-- 'cmdline.LawS1689CFirstMatch': WHATEVER THE INPUT: true; the input reads as it did. -/
def lawS1689CFirstMatchSpec : ChangeSpec := { name := "lawS1689CFirstMatch", fn := fun _ => fun
  | [d1, d2, d3, d4] => { results := [.lit (.bool true)], args := [d1, d2, d3, d4] }
  | _ => none }
def lawS1689CFirstMatchRow : OpenClaim := { program := "ybulkahym", sum := "c091dfcac9a488c293b91122b1cd8bde33465cf9e268cc20bd4bbececae19de3", func := "example.com/optkeel/optkeel/internal/cmdline.LawS1689CFirstMatch", spec := "lawS1689CFirstMatch", apart := false }
def LawS1689CFirstMatchSaid : Prop := lawS1689CFirstMatchRow.holds Yba.pinned (OpenSpec.ofChange lawS1689CFirstMatchSpec)

/-- ITS FALSE NEIGHBOUR: 'it returns false'. Refute it at one input. -/
def lawS1689CFirstMatchWrong : ChangeSpec := { name := "lawS1689CFirstMatch", fn := fun _ => fun
  | [d1, d2, d3, d4] => { results := [.lit (.bool false)], args := [d1, d2, d3, d4] }
  | _ => none }
def LawS1689CFirstMatchWrongFalsely : Prop := lawS1689CFirstMatchRow.holds Yba.pinned (OpenSpec.ofChange lawS1689CFirstMatchWrong)

/-- 'cmdline.LawS1689CAppended': WHATEVER THE INPUT: true; the input reads as it did. -/
def lawS1689CAppendedSpec : ChangeSpec := { name := "lawS1689CAppended", fn := fun _ => fun
  | [d1, d2] => { results := [.lit (.bool true)], args := [d1, d2] }
  | _ => none }
def lawS1689CAppendedRow : OpenClaim := { program := "ybulkahym", sum := "c091dfcac9a488c293b91122b1cd8bde33465cf9e268cc20bd4bbececae19de3", func := "example.com/optkeel/optkeel/internal/cmdline.LawS1689CAppended", spec := "lawS1689CAppended", apart := false }
def LawS1689CAppendedSaid : Prop := lawS1689CAppendedRow.holds Yba.pinned (OpenSpec.ofChange lawS1689CAppendedSpec)

/-- ITS FALSE NEIGHBOUR: 'it returns false'. Refute it at one input. -/
def lawS1689CAppendedWrong : ChangeSpec := { name := "lawS1689CAppended", fn := fun _ => fun
  | [d1, d2] => { results := [.lit (.bool false)], args := [d1, d2] }
  | _ => none }
def LawS1689CAppendedWrongFalsely : Prop := lawS1689CAppendedRow.holds Yba.pinned (OpenSpec.ofChange lawS1689CAppendedWrong)

end Rows
end Go.Proofs.Ybulkahym
