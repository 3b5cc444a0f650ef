/-
  No cell of these rows narrows 'for every input' (looked for: loops, veiled, ifaces, maps, wideKeys, modest, calm, conditions, laid).
  DERIVED. THE GIVEN ROWS OF THIS SEAT. 2 by the template 'for every input the law returns true; each argument reads behind the call as it read before'; 0 by the template 'total and deterministic' (their statements: YbulkefxiTotals.lean).
  GIVEN WITH THE SEED: the statements are not yours to turn. If you find one false, say at which input.
  Laid BY PROGRAM, IN A SANDBOX (cutbox-rows.mjs): the forced cells as the released guide's own fill.sh prints them over the translation 09b81b143294088b… (all of the seat's roots in one cut). By AI agents, Wed Nov 11 2026. No macro, syntax, notation, axiom, sorry.
-/
import Derived.Test.YbulkefxiChecked
import GoSem.Claim
import GoSem.ClaimJoined
import GoSem.ClaimMapViews
import Derived.JoinedTies
import Derived.KernelRfl
namespace Go.Proofs.Ybulkefxi
/- THE CELL 'sum', in the pinned program and in every row, IS THE sha256 OF THE DUMP (.gsa) THAT YbulkefxiProg.lean LOADS. Nothing in Lean hashes anything: it is a label: what it is worth is what the hold of that sum in a sandbox is worth. -/
noncomputable def Yba.pinned : Pinned := { name := "ybulkefxi", sum := "09b81b143294088b6413ba0202967d3bfca5b525246a37036a3ab37ad1d16f6e", checked := Yba.checked }
namespace Rows
def none {H : Type} : Left H := { results := [], args := [] }

/-- 'strandwise.LawS6612BWhole': WHATEVER THE INPUT: true; the input reads as it did. -/
def lawS6612BWholeSpec : ChangeSpec := { name := "lawS6612BWhole", fn := fun _ => fun
  | [d1, d2, d3, d4] => { results := [.lit (.bool true)], args := [d1, d2, d3, d4] }
  | _ => none }
def lawS6612BWholeRow : OpenClaim := { program := "ybulkefxi", sum := "09b81b143294088b6413ba0202967d3bfca5b525246a37036a3ab37ad1d16f6e", func := "example.com/strandwise/strandwise.LawS6612BWhole", spec := "lawS6612BWhole", inPlace := ["math.Float64frombits", "math.Float64bits"], unfollowed := true, recurses := true, apart := false }
def LawS6612BWholeSaid : Prop := lawS6612BWholeRow.holds Yba.pinned (OpenSpec.ofChange lawS6612BWholeSpec)

/-- ITS FALSE NEIGHBOUR: 'it returns false'. Refute it at one input. -/
def lawS6612BWholeWrong : ChangeSpec := { name := "lawS6612BWhole", fn := fun _ => fun
  | [d1, d2, d3, d4] => { results := [.lit (.bool false)], args := [d1, d2, d3, d4] }
  | _ => none }
def LawS6612BWholeWrongFalsely : Prop := lawS6612BWholeRow.holds Yba.pinned (OpenSpec.ofChange lawS6612BWholeWrong)

/-- 'strandwise.LawS6612CWhole': WHATEVER THE INPUT: true; the input reads as it did. -/
def lawS6612CWholeSpec : ChangeSpec := { name := "lawS6612CWhole", fn := fun _ => fun
  | [d1, d2, d3, d4, d5] => { results := [.lit (.bool true)], args := [d1, d2, d3, d4, d5] }
  | _ => none }
def lawS6612CWholeRow : OpenClaim := { program := "ybulkefxi", sum := "09b81b143294088b6413ba0202967d3bfca5b525246a37036a3ab37ad1d16f6e", func := "example.com/strandwise/strandwise.LawS6612CWhole", spec := "lawS6612CWhole", apart := false }
def LawS6612CWholeSaid : Prop := lawS6612CWholeRow.holds Yba.pinned (OpenSpec.ofChange lawS6612CWholeSpec)

/-- ITS FALSE NEIGHBOUR: 'it returns false'. Refute it at one input. -/
def lawS6612CWholeWrong : ChangeSpec := { name := "lawS6612CWhole", fn := fun _ => fun
  | [d1, d2, d3, d4, d5] => { results := [.lit (.bool false)], args := [d1, d2, d3, d4, d5] }
  | _ => none }
def LawS6612CWholeWrongFalsely : Prop := lawS6612CWholeRow.holds Yba.pinned (OpenSpec.ofChange lawS6612CWholeWrong)

end Rows
end Go.Proofs.Ybulkefxi
