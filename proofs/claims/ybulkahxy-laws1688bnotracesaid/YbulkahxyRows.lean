/-
  No cell of these rows narrows 'for every input' (looked for: loops, veiled, ifaces, maps, wideKeys, modest, calm, conditions, laid).
  DERIVED. THE GIVEN ROWS OF THIS SEAT. 2 by the template 'for every input the law returns true; each argument reads behind the call as it read before'; 0 by the template 'total and deterministic' (their statements: YbulkahxyTotals.lean).
  GIVEN WITH THE SEED: the statements are not yours to turn. If you find one false, say at which input.
  Laid BY PROGRAM, IN A SANDBOX (cutbox-rows.mjs): the forced cells as the released guide's own fill.sh prints them over the translation 5375fea15faa7dc0… (all of the seat's roots in one cut). By AI agents, Wed Nov 11 2026. No macro, syntax, notation, axiom, sorry.
-/
import Derived.Test.YbulkahxyChecked
import GoSem.Claim
import GoSem.ClaimJoined
import GoSem.ClaimMapViews
import Derived.JoinedTies
import Derived.KernelRfl
namespace Go.Proofs.Ybulkahxy
/- THE CELL 'sum', in the pinned program and in every row, IS THE sha256 OF THE DUMP (.gsa) THAT YbulkahxyProg.lean LOADS. Nothing in Lean hashes anything: it is a label: what it is worth is what the hold of that sum in a sandbox is worth. -/
noncomputable def Yba.pinned : Pinned := { name := "ybulkahxy", sum := "5375fea15faa7dc07b92fda65a4ee9ace47f0875793aaac5f66d14928b95b67b", checked := Yba.checked }
namespace Rows
def none {H : Type} : Left H := { results := [], args := [] }

/-- 'hashgrove.LawS1688BTrace': WHATEVER THE INPUT: true; the input reads as it did. -/
def lawS1688BTraceSpec : ChangeSpec := { name := "lawS1688BTrace", fn := fun _ => fun
  | [d1, d2, d3] => { results := [.lit (.bool true)], args := [d1, d2, d3] }
  | _ => none }
def lawS1688BTraceRow : OpenClaim := { program := "ybulkahxy", sum := "5375fea15faa7dc07b92fda65a4ee9ace47f0875793aaac5f66d14928b95b67b", func := "example.com/hashgrove/hashgrove.LawS1688BTrace", spec := "lawS1688BTrace", apart := false }
def LawS1688BTraceSaid : Prop := lawS1688BTraceRow.holds Yba.pinned (OpenSpec.ofChange lawS1688BTraceSpec)

/-- ITS FALSE NEIGHBOUR: 'it returns false'. Refute it at one input. -/
def lawS1688BTraceWrong : ChangeSpec := { name := "lawS1688BTrace", fn := fun _ => fun
  | [d1, d2, d3] => { results := [.lit (.bool false)], args := [d1, d2, d3] }
  | _ => none }
def LawS1688BTraceWrongFalsely : Prop := lawS1688BTraceRow.holds Yba.pinned (OpenSpec.ofChange lawS1688BTraceWrong)

/-- 'hashgrove.LawS1688BNoTrace': WHATEVER THE INPUT: true; the input reads as it did. -/
def lawS1688BNoTraceSpec : ChangeSpec := { name := "lawS1688BNoTrace", fn := fun _ => fun
  | [d1, d2, d3, d4] => { results := [.lit (.bool true)], args := [d1, d2, d3, d4] }
  | _ => none }
def lawS1688BNoTraceRow : OpenClaim := { program := "ybulkahxy", sum := "5375fea15faa7dc07b92fda65a4ee9ace47f0875793aaac5f66d14928b95b67b", func := "example.com/hashgrove/hashgrove.LawS1688BNoTrace", spec := "lawS1688BNoTrace", apart := false }
def LawS1688BNoTraceSaid : Prop := lawS1688BNoTraceRow.holds Yba.pinned (OpenSpec.ofChange lawS1688BNoTraceSpec)

/-- ITS FALSE NEIGHBOUR: 'it returns false'. Refute it at one input. -/
def lawS1688BNoTraceWrong : ChangeSpec := { name := "lawS1688BNoTrace", fn := fun _ => fun
  | [d1, d2, d3, d4] => { results := [.lit (.bool false)], args := [d1, d2, d3, d4] }
  | _ => none }
def LawS1688BNoTraceWrongFalsely : Prop := lawS1688BNoTraceRow.holds Yba.pinned (OpenSpec.ofChange lawS1688BNoTraceWrong)

end Rows
end Go.Proofs.Ybulkahxy
