/-
  No cell of these rows narrows 'for every input' (looked for: loops, veiled, ifaces, maps, wideKeys, modest, calm, conditions, laid).
  DERIVED. THE GIVEN ROWS OF THIS SEAT. 4 by the template 'for every input the law returns true; each argument reads behind the call as it read before'; 0 by the template 'total and deterministic' (their statements: YbulkaidiTotals.lean).
  GIVEN WITH THE SEED: the statements are not yours to turn. If you find one false, say at which input.
  Laid BY PROGRAM, IN A SANDBOX (cutbox-rows.mjs): the forced cells as the released guide's own fill.sh prints them over the translation a76376f8fefd1ba6… (all of the seat's roots in one cut). By AI agents, Wed Nov 11 2026. No macro, syntax, notation, axiom, sorry.
-/
import Derived.Test.YbulkaidiChecked
import GoSem.Claim
import GoSem.ClaimJoined
import GoSem.ClaimMapViews
import Derived.JoinedTies
import Derived.KernelRfl
namespace Go.Proofs.Ybulkaidi
/- THE CELL 'sum', in the pinned program and in every row, IS THE sha256 OF THE DUMP (.gsa) THAT YbulkaidiProg.lean LOADS. Nothing in Lean hashes anything: it is a label: what it is worth is what the hold of that sum in a sandbox is worth. -/
noncomputable def Yba.pinned : Pinned := { name := "ybulkaidi", sum := "a76376f8fefd1ba6742fe4680ec36b3bfed5c29c0ae33caaeda1c74473de7388", checked := Yba.checked }
namespace Rows
def none {H : Type} : Left H := { results := [], args := [] }

/-- 'roundwise.LawS1698AShape': WHATEVER THE INPUT: true; the input reads as it did. -/
def lawS1698AShapeSpec : ChangeSpec := { name := "lawS1698AShape", fn := fun _ => fun
  | [d1, d2, d3] => { results := [.lit (.bool true)], args := [d1, d2, d3] }
  | _ => none }
def lawS1698AShapeRow : OpenClaim := { program := "ybulkaidi", sum := "a76376f8fefd1ba6742fe4680ec36b3bfed5c29c0ae33caaeda1c74473de7388", func := "example.com/roundwise.LawS1698AShape", spec := "lawS1698AShape", apart := false }
def LawS1698AShapeSaid : Prop := lawS1698AShapeRow.holds Yba.pinned (OpenSpec.ofChange lawS1698AShapeSpec)

/-- ITS FALSE NEIGHBOUR: 'it returns false'. Refute it at one input. -/
def lawS1698AShapeWrong : ChangeSpec := { name := "lawS1698AShape", fn := fun _ => fun
  | [d1, d2, d3] => { results := [.lit (.bool false)], args := [d1, d2, d3] }
  | _ => none }
def LawS1698AShapeWrongFalsely : Prop := lawS1698AShapeRow.holds Yba.pinned (OpenSpec.ofChange lawS1698AShapeWrong)

/-- 'roundwise.LawS1698ARounds': WHATEVER THE INPUT: true; the input reads as it did. -/
def lawS1698ARoundsSpec : ChangeSpec := { name := "lawS1698ARounds", fn := fun _ => fun
  | [d1, d2, d3, d4] => { results := [.lit (.bool true)], args := [d1, d2, d3, d4] }
  | _ => none }
def lawS1698ARoundsRow : OpenClaim := { program := "ybulkaidi", sum := "a76376f8fefd1ba6742fe4680ec36b3bfed5c29c0ae33caaeda1c74473de7388", func := "example.com/roundwise.LawS1698ARounds", spec := "lawS1698ARounds", apart := false }
def LawS1698ARoundsSaid : Prop := lawS1698ARoundsRow.holds Yba.pinned (OpenSpec.ofChange lawS1698ARoundsSpec)

/-- ITS FALSE NEIGHBOUR: 'it returns false'. Refute it at one input. -/
def lawS1698ARoundsWrong : ChangeSpec := { name := "lawS1698ARounds", fn := fun _ => fun
  | [d1, d2, d3, d4] => { results := [.lit (.bool false)], args := [d1, d2, d3, d4] }
  | _ => none }
def LawS1698ARoundsWrongFalsely : Prop := lawS1698ARoundsRow.holds Yba.pinned (OpenSpec.ofChange lawS1698ARoundsWrong)

/-- 'algorithms.LawS1698BModel': WHATEVER THE INPUT: true; the input reads as it did. -/
def lawS1698BModelSpec : ChangeSpec := { name := "lawS1698BModel", fn := fun _ => fun
  | [d] => { results := [.lit (.bool true)], args := [d] }
  | _ => none }
def lawS1698BModelRow : OpenClaim := { program := "ybulkaidi", sum := "a76376f8fefd1ba6742fe4680ec36b3bfed5c29c0ae33caaeda1c74473de7388", func := "example.com/roundwise/algorithms.LawS1698BModel", spec := "lawS1698BModel", recurses := true, apart := false }
def LawS1698BModelSaid : Prop := lawS1698BModelRow.holds Yba.pinned (OpenSpec.ofChange lawS1698BModelSpec)

/-- ITS FALSE NEIGHBOUR: 'it returns false'. Refute it at one input. -/
def lawS1698BModelWrong : ChangeSpec := { name := "lawS1698BModel", fn := fun _ => fun
  | [d] => { results := [.lit (.bool false)], args := [d] }
  | _ => none }
def LawS1698BModelWrongFalsely : Prop := lawS1698BModelRow.holds Yba.pinned (OpenSpec.ofChange lawS1698BModelWrong)

/-- 'algorithms.LawS1698BReverse': WHATEVER THE INPUT: true; the input reads as it did. -/
def lawS1698BReverseSpec : ChangeSpec := { name := "lawS1698BReverse", fn := fun _ => fun
  | [d] => { results := [.lit (.bool true)], args := [d] }
  | _ => none }
def lawS1698BReverseRow : OpenClaim := { program := "ybulkaidi", sum := "a76376f8fefd1ba6742fe4680ec36b3bfed5c29c0ae33caaeda1c74473de7388", func := "example.com/roundwise/algorithms.LawS1698BReverse", spec := "lawS1698BReverse", recurses := true, apart := false }
def LawS1698BReverseSaid : Prop := lawS1698BReverseRow.holds Yba.pinned (OpenSpec.ofChange lawS1698BReverseSpec)

/-- ITS FALSE NEIGHBOUR: 'it returns false'. Refute it at one input. -/
def lawS1698BReverseWrong : ChangeSpec := { name := "lawS1698BReverse", fn := fun _ => fun
  | [d] => { results := [.lit (.bool false)], args := [d] }
  | _ => none }
def LawS1698BReverseWrongFalsely : Prop := lawS1698BReverseRow.holds Yba.pinned (OpenSpec.ofChange lawS1698BReverseWrong)

end Rows
end Go.Proofs.Ybulkaidi
