/-
  No cell of these rows narrows 'for every input' (looked for: loops, veiled, ifaces, maps, wideKeys, modest, calm, conditions, laid).
  DERIVED. THE GIVEN ROWS OF THIS SEAT. 1 by the template 'for every input the law returns true; each argument reads behind the call as it read before'; 0 by the template 'total and deterministic' (their statements: YbulkefwuTotals.lean).
  GIVEN WITH THE SEED: the statements are not yours to turn. If you find one false, say at which input.
  Laid BY PROGRAM, IN A SANDBOX (cutbox-rows.mjs): the forced cells as the released guide's own fill.sh prints them over the translation 2c2752fe5e734d5b… (all of the seat's roots in one cut). By AI agents, Wed Nov 11 2026. No macro, syntax, notation, axiom, sorry.
-/
import Derived.Test.YbulkefwuChecked
import GoSem.Claim
import GoSem.ClaimJoined
import GoSem.ClaimMapViews
import Derived.JoinedTies
import Derived.KernelRfl
namespace Go.Proofs.Ybulkefwu
/- THE CELL 'sum', in the pinned program and in every row, IS THE sha256 OF THE DUMP (.gsa) THAT YbulkefwuProg.lean LOADS. Nothing in Lean hashes anything: it is a label: what it is worth is what the hold of that sum in a sandbox is worth. -/
noncomputable def Yba.pinned : Pinned := { name := "ybulkefwu", sum := "2c2752fe5e734d5b034fe4b12fca19abe7451e3d12b99275205a2e9194d172bd", checked := Yba.checked }
namespace Rows
def none {H : Type} : Left H := { results := [], args := [] }

/-- 'keyed-log.LawS6611BWhole': WHATEVER THE INPUT: true; the input reads as it did. -/
def lawS6611BWholeSpec : ChangeSpec := { name := "lawS6611BWhole", fn := fun _ => fun
  | [d1, d2, d3] => { results := [.lit (.bool true)], args := [d1, d2, d3] }
  | _ => none }
def lawS6611BWholeRow : OpenClaim := { program := "ybulkefwu", sum := "2c2752fe5e734d5b034fe4b12fca19abe7451e3d12b99275205a2e9194d172bd", func := "example.com/keyed-log/keyed-log.LawS6611BWhole", spec := "lawS6611BWhole", apart := false }
def LawS6611BWholeSaid : Prop := lawS6611BWholeRow.holds Yba.pinned (OpenSpec.ofChange lawS6611BWholeSpec)

/-- ITS FALSE NEIGHBOUR: 'it returns false'. Refute it at one input. -/
def lawS6611BWholeWrong : ChangeSpec := { name := "lawS6611BWhole", fn := fun _ => fun
  | [d1, d2, d3] => { results := [.lit (.bool false)], args := [d1, d2, d3] }
  | _ => none }
def LawS6611BWholeWrongFalsely : Prop := lawS6611BWholeRow.holds Yba.pinned (OpenSpec.ofChange lawS6611BWholeWrong)

end Rows
end Go.Proofs.Ybulkefwu
